import PyProof.Rows.All
import Wide.All
import OpenK.AllK
import Wide.FinOn
import PySem.Challenge.RW_pg0249_03
set_option Elab.async false
section
open PySem PySem.W PyProof.Rows
set_option Elab.async false
set_option maxRecDepth 100000
set_option maxHeartbeats 8000000
namespace Mine
open_top hd3 for PySem.Challenge.rw_pg0249_03
end Mine
end
theorem Mine.topOff : True := by
  w_top off
  trivial
section
open PySem PySem.W PyProof.Rows PyProof.V PySem.Calls
set_option Elab.async false
set_option maxRecDepth 100000
namespace Mine
section
open Builtin Builtin.Str
/-- str.find with both bounds -/
def F4 (x y : Str) (lo hi : Nat) : Int := match occurrences x y lo hi 1 with | k :: _ => (k : Int) | [] => -1
theorem gives_find4 (x y : Str) (i j : Int) (t u v v' : Tok) : Gives («str.find» ⟨[.str x t, .str y u, .int i v, .int j v'], []⟩) (.int (F4 x y (fromIndex x.length i) (min (fromIndex x.length j) x.length))) := by
  show Gives (match occurrences x y (fromIndex x.length i) (min (fromIndex x.length j) x.length) 1 with | k :: _ => retInt k | [] => (do rule "str.find.not-found"; retInt (-1))) _
  unfold F4
  cases occurrences x y (fromIndex x.length i) (min (fromIndex x.length j) x.length) 1 with
  | nil => exact .rule (.of_eq rfl)
  | cons k _ => exact .of_eq rfl
theorem find4 {prog : Program} {w : World} {A : Around} {E : Value → Shared → Prop} {s : Shared} {Q : Value → Shared → Prop} {x y : Str} {i j : Int} {t u v v' : Tok} (hi : 0 ≤ i) (hj : 0 ≤ j) (hjx : j ≤ x.length)
    (hq : Q (.int (F4 x y i.toNat j.toNat) s.toks) { s with toks := s.toks + 1 }) : wpAny (model prog w) A (call (.builtin "str.find") [.str x t, .str y u, .int i v, .int j v']) Q E s := by
  refine call_gives F.slot_str_find (typeIs_str _ _ _) F.entry_str_find (F.args_str_find_4 _ _ _ _) (gives_find4 x y i j t u v v') ?_
  have e1 : fromIndex x.length i = i.toNat := by unfold fromIndex; rw [if_neg (by omega)]; omega
  have e2 : min (fromIndex x.length j) x.length = j.toNat := by unfold fromIndex; rw [if_neg (by omega)]; omega
  rw [e1, e2]
  exact hq
theorem F4_ge (x y : Str) (lo hi : Nat) : -1 ≤ F4 x y lo hi := by
  unfold F4
  split <;> omega
def occGo (s sub : Str) (hi limit : Nat) : List Nat → Nat → Nat → List Nat
  | [], _, _ => []
  | i :: r, free, k => if k < limit ∧ free ≤ i ∧ i + sub.length ≤ hi ∧ subAt s sub i = true then i :: occGo s sub hi limit r (i + sub.length) (k + 1) else occGo s sub hi limit r free k
theorem occGo_eq (s sub : Str) (hi limit : Nat) : ∀ (l : List Nat) (st : Array Nat × Nat), (forIn (m := Id) l st (StrLaws.occBody s sub hi limit)).run.fst.toList = st.fst.toList ++ occGo s sub hi limit l st.snd st.fst.size := by
  intro l
  induction l with
  | nil => intro st; simp [occGo]
  | cons i r ih =>
    intro st
    simp only [List.forIn_cons, StrLaws.occBody, occGo]
    by_cases h : ((st.fst.size < limit ∧ st.snd ≤ i) ∧ i + sub.length ≤ hi) ∧ subAt s sub i = true
    · rw [if_pos (by simpa [and_assoc] using h), if_pos (by simpa [and_assoc] using h)]
      have := ih (st.fst.push i, i + sub.length)
      simp only [Array.toList_push, Array.size_push, List.append_assoc, List.cons_append, List.nil_append] at this
      exact this
    · rw [if_neg (by simpa [and_assoc] using h), if_neg (by simpa [and_assoc] using h)]
      exact ih st
theorem occ_go (s sub : Str) (lo hi limit : Nat) : occurrences s sub lo hi limit = occGo s sub hi limit (List.range' lo (hi + 1 - lo)) lo 0 := by
  rw [StrLaws.occ_eq, occGo_eq]
  simp
theorem F4_nil (x : Str) (lo hi : Nat) (h : lo ≤ hi) : F4 x (Str.ofString "") lo hi = lo := by
  unfold F4
  rw [occ_go]
  have e : hi + 1 - lo = (hi - lo) + 1 := by omega
  rw [e, List.range'_succ]
  have : subAt x (Str.ofString "") lo = true := by
    rw [StrLaws.subAt_eq]
    simp [Str.ofString, Str.length]
    rfl
  simp only [occGo]
  rw [if_pos ⟨by omega, Nat.le_refl _, by have : (Str.ofString "").length = 0 := by decide
                                          omega, this⟩]
end
section
/-- the heap behind a tree of looks and one new object (the library's peekA): all that stood before it stands -/
theorem peekA_keeps {α : Type} {K : Frag} {M : Model} {A : Around} {E : Value → Shared → Prop} {Q : α → Shared → Prop} {s : Shared} {o : Obj} (X : K.In s.heap) :
    ∀ (t : Sem α) (g : Addr → Sem α), peekA K ⟨M.prog, M.w.params⟩ t = some (o, g) → wpAny M A (g s.heap.objs.size) Q E { s with heap := s.heap.push o } → wpAny M A t Q E s
  | .rule _ k, g, e, q => fun Γ p hΓ => peekA_keeps X (k ()) g e q Γ p hΓ
  | .point _ k, g, e, q => fun Γ p hΓ => peekA_keeps X (k ()) g e q Γ p hΓ
  | .ask k, g, e, q => fun Γ p hΓ => peekA_keeps X (k _) g e q Γ p hΓ
  | .load a _ k, g, e, q => fun Γ p hΓ => by
    cases ho : K.lookup a with
    | none => simp [peekA, ho] at e
    | some ob => exact ⟨ob, X _ _ ho, peekA_keeps X (k ob) g (by simpa [peekA, ho] using e) q Γ p hΓ⟩
  | .alloc ob k, g, e, q => by
    have e' : ob = o ∧ k = g := by simpa [peekA] using e
    obtain ⟨rfl, rfl⟩ := e'
    show wpAny M A (alloc ob >>= k) Q E s
    exact wpAny_bind (wpAny_alloc q)
  | .pure _, g, e, _ | .raise _, g, e, _ | .unsupported _, g, e, _ | .finish _, g, e, _ | .at _ _, g, e, _ | .update _ _ _ _, g, e, _ | .loadIfAlive _ _, g, e, _ | .register _ _, g, e, _ | .fresh _, g, e, _ | .choose _ _ _, g, e, _ | .os _ _ _, g, e, _
  | .call _ _ _ _ _, g, e, _ | .handled _ _, g, e, _ | .newGen _ _, g, e, _ | .genState _ _, g, e, _ | .resume _ _ _ _, g, e, _ | .yield _ _ _ _, g, e, _ | .stack _, g, e, _ | .fork _ _, g, e, _ | .thread _, g, e, _ | .await _ _ _ _ _, g, e, _ => by simp [peekA] at e
variable {prog : Program} {w : World} {A A₀ : Around} {s : Shared} {K : Frag} {L : Addr} {h₀ base : Heap} {m mg mb : Str → Option Value} {news : List (Addr × Obj)} {p : Program} {loose : List Str} {mean : ExcName → Option Value}
/-- what a def's body is asked, its frame laid at L' over the ground g -/
abbrev Body (prog : Program) (w : World) (A : Around) (K : Frag) (p : Program) (loose : List Str) (mean : ExcName → Option Value) (mg mb : Str → Option Value) (h₀ base : Heap) (outer : List Env) (env : Env) (L : Addr) (m : Str → Option Value) (h : Heap) (news led : List (Addr × Obj)) (R : Result → Shared → Prop) (s : Shared) (body : List Stmt) (e : Addr → Env) (binds : List (Str × Value)) : Prop :=
  ∀ g L' h₁ tk, (∀ b o, h.get? b = some o → b ∉ news.map (·.1) → g.get? b = some o) → (∀ p ∈ led, p.1 < L') → Fr h₀ L g m → Fr g L' h₁ (fun y => binds.reverse.lookup y) → News g L' h₁ led → Below A base (env :: outer) g → K.In g → Top p loose mean mg mb g →
      wpAny (model prog w) (A.deeper (e L')) (execs body (e L'))
        (fun fl s' => LeaveK h₀ L m g R (match fl with | .ret v => v | _ => .none) s')
        (fun x s' => wpAny (model prog w) (A.deeper (e L')) (leaving (e L') x) (fun _ s'' => R (.error x) s'') (fun e' s'' => R (.error e') s'') s')
        { s with heap := h₁, toks := tk }
theorem frame_sub {env : Env} {outer : List Env} {R : Result → Shared → Prop} {E : Value → Shared → Prop} {qual : Str} {body : List Stmt} {scope : Scope} {cdv : Value} {f : Addr} {binds : List (Str × Value)}
    (B : Below A₀ base outer h₀) (F : Fr h₀ L s.heap m) (X₀ : K.In h₀) (N : News h₀ L s.heap news) (T : Top p loose mean mg mb h₀) (hA : A.frames = some (env :: outer)) (hf : env.frame = some L) (hke : env.scope.kind = .function)
    (hloc : ∀ y ∈ binds, scope.names.lookup y.1 = some .local) (h : Body prog w A K p loose mean mg mb h₀ base outer env L m s.heap news news R s body (fun L' => envOf qual scope L' f cdv) binds)
    (hk : scope.kind = .function) (hcell : ∀ x ∈ scope.names, x.2 ≠ .cell) :
    wpAny (model prog w) A.in1 (newFunctionEnv scope mainGlobals [] binds (qual ++ ".<locals>.") (some f) cdv none builtinsNs) (fun env' s₂ => s₂.heap.NoLimit ∧ codeAny (model prog w) A (.func body env') R s₂) E s := by
  obtain ⟨FG, BG, st, lv⟩ := groundX (R := R) B F N hA hf hke
  have kn : ∀ b o, h₀.get? b = some o → (hideAll s.heap (news.map (·.1))).get? b = some o := fun b o e => st b o e
  refine wpAny_newFunctionEnv hcell hloc (fun h₁ hns hsb => ⟨(T.nolimit.keeps F.keep).fresh _ hsb, codeAny_func ?_⟩) hk
  have ext : ∀ b o, s.heap.get? b = some o → h₁.get? b = some o := fun b o e => hsb.extBut b o (Nat.ne_of_lt (Heap.lt_size e)) (Heap.get?_push_of_some _ e)
  refine wpAny_mono (h (hideAll s.heap (news.map (·.1))) s.heap.objs.size h₁ _ (fun b o e n => hideAll_get _ e n) (fun p hp => Heap.lt_size (N p hp).1) FG ⟨hns, fun b o e => ext b o (of_hideAll _ e), Nat.le_of_eq (hideAll_size _ _)⟩ ?_ BG (X₀.keeps kn) (T.keeps kn)) (fun fl s' hl => lv _ _ hl) fun _ _ y => y
  exact fun p hp => ⟨ext _ _ (N p hp).1, Nat.ne_of_lt (Heap.lt_size (N p hp).1), hideAll_none _ (List.mem_map_of_mem hp)⟩
/-- a def with plain parameters -/
theorem code_sub {env : Env} {outer : List Env} {R : Result → Shared → Prop} {name qual : Str} {params : Arguments} {body : List Stmt} {scope : Scope} {dV kV doc pm cdv ct oc : Value} {an od : Option Addr} {osl : Array (Option Value)} {f : Addr} {args : Args} {binds : List (Str × Value)}
    (B : Below A₀ base outer h₀) (F : Fr h₀ L s.heap m) (X₀ : K.In h₀) (N : News h₀ L s.heap news) (T : Top p loose mean mg mb h₀) (hA : A.frames = some (env :: outer)) (hf : env.frame = some L) (hke : env.scope.kind = .function)
    (ho : K.lookup f = some ⟨oc, od, .func (fnOf name qual params body scope dV kV doc pm an cdv ct), osl⟩) (hcd : codeIn K cdv qual = true) (hroom : A.depth < recursionLimit)
    (hbind : BindsTo s (fnOf name qual params body scope dV kV doc pm an cdv ct) args binds) (hloc : ∀ y ∈ binds, scope.names.lookup y.1 = some .local)
    (h : Body prog w A K p loose mean mg mb h₀ base outer env L m s.heap news news R s body (fun L' => envOf qual scope L' f cdv) binds)
    (hco : scope.isCoroutine = false) (hgen : scope.isGenerator = false) (hk : scope.kind = .function)
    (hcell : ∀ x ∈ scope.names, x.2 ≠ .cell) : codeAny (model prog w) A (.call (.ref f) args) R s := by
  refine codeAny_call_function (fd := fnOf name qual params body scope dV kV doc pm an cdv ct) (body := body) hroom ((X₀.keeps F.keep) _ _ ho) rfl hco hgen rfl (codeRec_of (X₀.keeps F.keep) hcd) (hbind _ _ _ _ ?_)
  exact frame_sub B F X₀ N T hA hf hke hloc h hk hcell
/-- a def some of whose names are cells -/
theorem code_subC {env : Env} {outer : List Env} {R : Result → Shared → Prop} {name qual : Str} {params : Arguments} {body : List Stmt} {scope : Scope} {dV kV doc pm cdv ct oc : Value} {an od : Option Addr} {osl : Array (Option Value)} {f : Addr} {args : Args} {binds : List (Str × Value)}
    (B : Below A₀ base outer h₀) (F : Fr h₀ L s.heap m) (X₀ : K.In h₀) (N : News h₀ L s.heap news) (T : Top p loose mean mg mb h₀) (hA : A.frames = some (env :: outer)) (hf : env.frame = some L) (hke : env.scope.kind = .function)
    (ho : K.lookup f = some ⟨oc, od, .func (fnOf name qual params body scope dV kV doc pm an cdv ct), osl⟩) (hcd : codeIn K cdv qual = true) (hroom : A.depth < recursionLimit)
    (hbind : BindsTo s (fnOf name qual params body scope dV kV doc pm an cdv ct) args binds) (hkind : (binds.all fun y => scope.names.lookup y.1 == some .local || scope.names.lookup y.1 == some .cell) = true)
    (hnd : ((cellsFrom 0 scope.names []).map (·.1)).Nodup)
    (h : ∀ g L' h₁ tk cells, (∀ b o, s.heap.get? b = some o → b ∉ news.map (·.1) → g.get? b = some o) → (∀ p ∈ news, p.1 < L') → Fr h₀ L g m → Fr g L' h₁ (bindL (envOfC qual scope L' f cdv).kindOf binds fun _ => none) → News g L' h₁ (cells ++ news) →
      CellsAre (bindC (envOfC qual scope L' f cdv).kindOf binds fun _ => none) (cellsFrom (L' + 1) scope.names []) cells → Below A base (env :: outer) g → K.In g → Top p loose mean mg mb g →
      wpAny (model prog w) (A.deeper (envOfC qual scope L' f cdv)) (execs body (envOfC qual scope L' f cdv))
        (fun fl s' => LeaveK h₀ L m g R (match fl with | .ret v => v | _ => .none) s')
        (fun e s' => wpAny (model prog w) (A.deeper (envOfC qual scope L' f cdv)) (leaving (envOfC qual scope L' f cdv) e) (fun _ s'' => R (.error e) s'') (fun e' s'' => R (.error e') s'') s')
        { s with heap := h₁, toks := tk })
    (hco : scope.isCoroutine = false) (hgen : scope.isGenerator = false) (hk : scope.kind = .function) : codeAny (model prog w) A (.call (.ref f) args) R s := by
  obtain ⟨FG, BG, st, lv⟩ := groundX (R := R) B F N hA hf hke
  have kn : ∀ b o, h₀.get? b = some o → (hideAll s.heap (news.map (·.1))).get? b = some o := fun b o e => st b o e
  refine codeAny_call_function (fd := fnOf name qual params body scope dV kV doc pm an cdv ct) (body := body) hroom ((X₀.keeps F.keep) _ _ ho) rfl hco hgen rfl (codeRec_of (X₀.keeps F.keep) hcd) (hbind _ _ _ _ ?_)
  refine wpAny_newFunctionEnv_cells hk (kindsX hkind _) fun env' he s' x => ?_
  subst he
  have ext := x.toInCall.keep
  refine ⟨(T.nolimit.keeps F.keep).keeps ext, codeAny_func ?_⟩
  obtain ⟨h₁, tk, rfl, _⟩ := x.done
  obtain ⟨cells, NC, Y⟩ := Cl.news (h₀ := s.heap) (Nat.le_refl _) fun n c hm => ⟨x.cell n c (lookup_of_mem_nodup (cellsFrom_names scope.names 0 (s.heap.objs.size + 1) [] [] rfl ▸ hnd) hm), x.above n c hm⟩
  refine wpAny_mono (h (hideAll s.heap (news.map (·.1))) s.heap.objs.size h₁ tk cells (fun b o e n => hideAll_get _ e n) (fun p hp => Heap.lt_size (N p hp).1) FG ⟨x.toInCall.ns, fun b o e => ext b o (of_hideAll _ e), Nat.le_of_eq (hideAll_size _ _)⟩ (fun q hq => ?_) Y BG (X₀.keeps kn) (T.keeps kn)) (fun fl s' hl => lv _ _ hl) fun _ _ y => y
  rcases List.mem_append.mp hq with hq | hq
  · have hn : (hideAll s.heap (news.map (·.1))).get? q.1 = none := by
      cases e : (hideAll s.heap (news.map (·.1))).get? q.1 with
      | none => rfl
      | some o => have z := of_hideAll _ e; rw [(NC q hq).2.2] at z; cases z
    exact ⟨(NC q hq).1, (NC q hq).2.1, hn⟩
  · exact ⟨ext _ _ (N q hq).1, Nat.ne_of_lt (Heap.lt_size (N q hq).1), hideAll_none _ (List.mem_map_of_mem hq)⟩
/-- a def with a star parameter -/
theorem code_rest {env : Env} {outer : List Env} {R : Result → Shared → Prop} {name qual : Str} {params : Arguments} {body : List Stmt} {scope : Scope} {dV kV doc pm cdv ct oc : Value} {an od : Option Addr} {osl : Array (Option Value)} {f : Addr} {args : Args} {vs : List Value} {binds : Addr → List (Str × Value)}
    (B : Below A₀ base outer h₀) (F : Fr h₀ L s.heap m) (X₀ : K.In h₀) (N : News h₀ L s.heap news) (T : Top p loose mean mg mb h₀) (hA : A.frames = some (env :: outer)) (hf : env.frame = some L) (hke : env.scope.kind = .function)
    (ho : K.lookup f = some ⟨oc, od, .func (fnOf name qual params body scope dV kV doc pm an cdv ct), osl⟩) (hcd : codeIn K cdv qual = true) (hroom : A.depth < recursionLimit)
    (hp : peekA K ⟨prog, w.params⟩ (bindArgs (fnOf name qual params body scope dV kV doc pm an cdv ct) args) = some (({ cls := .type "tuple", data := .seq vs.toArray } : Obj), fun D => pure (binds D)))
    (hloc : ∀ D, ∀ y ∈ binds D, scope.names.lookup y.1 = some .local)
    (h : ∀ D, (∀ p ∈ news, p.1 < D) → (∀ b o, s.heap.get? b = some o → b ≠ D) → Body prog w A K p loose mean mg mb h₀ base outer env L m s.heap news ((D, ({ cls := .type "tuple", data := .seq vs.toArray } : Obj)) :: news) R s body (fun L' => envOf qual scope L' f cdv) (binds D))
    (hco : scope.isCoroutine = false) (hgen : scope.isGenerator = false) (hk : scope.kind = .function)
    (hcell : ∀ x ∈ scope.names, x.2 ≠ .cell) : codeAny (model prog w) A (.call (.ref f) args) R s := by
  refine codeAny_call_function (fd := fnOf name qual params body scope dV kV doc pm an cdv ct) (body := body) hroom ((X₀.keeps F.keep) _ _ ho) rfl hco hgen rfl (codeRec_of (X₀.keeps F.keep) hcd) ?_
  refine peekA_keeps (M := model prog w) (X₀.keeps F.keep) _ _ hp (wpAny_pure ?_)
  refine frame_sub (s := { s with heap := s.heap.push _ }) B (F.push _) X₀ (News.push F N _) T hA hf hke (hloc _) (fun g L' h₁ tk a1 a2 a3 a4 a5 a6 a7 a8 => ?_) hk hcell
  refine h s.heap.objs.size (fun p hp => Heap.lt_size (N p hp).1) (fun b o e => Nat.ne_of_lt (Heap.lt_size e)) g L' h₁ tk (fun b o e n => a1 b o (Heap.get?_push_of_some _ e) ?_) a2 a3 a4 a5 a6 a7 a8
  rw [List.map_cons, List.mem_cons]
  rintro (q | q)
  · have := Heap.lt_size e
    exact absurd q (Nat.ne_of_lt this)
  · exact n q
/-- a def with a double star parameter, no such argument given -/
theorem code_more0 {env : Env} {outer : List Env} {R : Result → Shared → Prop} {name qual : Str} {params : Arguments} {body : List Stmt} {scope : Scope} {dV kV doc pm cdv ct oc : Value} {an od : Option Addr} {osl : Array (Option Value)} {f : Addr} {args : Args} {binds : Addr → List (Str × Value)}
    (B : Below A₀ base outer h₀) (F : Fr h₀ L s.heap m) (X₀ : K.In h₀) (N : News h₀ L s.heap news) (T : Top p loose mean mg mb h₀) (hA : A.frames = some (env :: outer)) (hf : env.frame = some L) (hke : env.scope.kind = .function)
    (ho : K.lookup f = some ⟨oc, od, .func (fnOf name qual params body scope dV kV doc pm an cdv ct), osl⟩) (hcd : codeIn K cdv qual = true) (hroom : A.depth < recursionLimit)
    (hp : peekA K ⟨prog, w.params⟩ (bindArgs (fnOf name qual params body scope dV kV doc pm an cdv ct) args) = some (dictOf [] 0, fun D => pure (binds D)))
    (hloc : ∀ D, ∀ y ∈ binds D, scope.names.lookup y.1 = some .local)
    (h : ∀ D o, (∀ p ∈ news, p.1 < D) → (∀ b o, s.heap.get? b = some o → b ≠ D) → (D == sysModules) = false → o.IsDictOf (strKind prog w) [] → FlatPairs PyData.str [] [] → Body prog w A K p loose mean mg mb h₀ base outer env L m s.heap news ((D, o) :: news) R s body (fun L' => envOf qual scope L' f cdv) (binds D))
    (hco : scope.isCoroutine = false) (hgen : scope.isGenerator = false) (hk : scope.kind = .function)
    (hcell : ∀ x ∈ scope.names, x.2 ≠ .cell) : codeAny (model prog w) A (.call (.ref f) args) R s := by
  refine codeAny_call_function (fd := fnOf name qual params body scope dV kV doc pm an cdv ct) (body := body) hroom ((X₀.keeps F.keep) _ _ ho) rfl hco hgen rfl (codeRec_of (X₀.keeps F.keep) hcd) ?_
  refine peekA_keeps (M := model prog w) (X₀.keeps F.keep) _ _ hp (wpAny_pure ?_)
  refine frame_sub (s := { s with heap := s.heap.push _ }) B (F.push _) X₀ (News.push F N _) T hA hf hke (hloc _) (fun g L' h₁ tk a1 a2 a3 a4 a5 a6 a7 a8 => ?_) hk hcell
  refine h s.heap.objs.size (dictOf [] 0) (fun p hp => Heap.lt_size (N p hp).1) (fun b o e => Nat.ne_of_lt (Heap.lt_size e)) (F.notModules (modules_low T.nolimit)) (kp_isDict (ex := []) 0 0 List.nodup_nil) .nil g L' h₁ tk (fun b o e n => a1 b o (Heap.get?_push_of_some _ e) ?_) a2 a3 a4 a5 a6 a7 a8
  rw [List.map_cons, List.mem_cons]
  rintro (q | q)
  · have := Heap.lt_size e
    exact absurd q (Nat.ne_of_lt this)
  · exact n q
end
/-- a call that keeps every object that stood before it and hands back one value -/
abbrev Pur (prog : Program) (w : World) (K : Frag) (p : Program) (loose : List Str) (mean : ExcName → Option Value) (mg mb : Str → Option Value) (D U : Nat) (f : Addr) (vs : List Value) (pre : Heap → Prop) (R : Tok → Value) : Prop :=
  ∀ (dp un : Nat) (gd : Option (List Code)) (cn : Str) (cs : Scope) (a : Addr) (ccd : Value) (cl : List (Str × Addr)) (outer : List Env) (A₀ : Around) (base h₀ : Heap) (L : Addr) (m : Str → Option Value) (s : Shared) (Q E : Value → Shared → Prop),
    Below A₀ base outer h₀ → Fr h₀ L s.heap m → K.In h₀ → Top p loose mean mg mb h₀ → cs.kind = .function → dp + D < recursionLimit → un + U < cLine → pre s.heap →
    (∀ (t : Tok) (h' : Heap) (tk' : Nat), Fr h₀ L h' m → (∀ b o, s.heap.get? b = some o → h'.get? b = some o) → Q (R t) { s with heap := h', toks := tk' }) →
    wpAny (model prog w) (ktrTop dp un gd cn cs L a ccd cl outer) (call (.ref f) vs) Q E s
abbrev PurK (prog : Program) (w : World) (K : Frag) (p : Program) (loose : List Str) (mean : ExcName → Option Value) (mg mb : Str → Option Value) (D U : Nat) (f : Addr) (vs : List Value) (kw : List (Str × Value)) (pre : Heap → Prop) (R : Tok → Value) : Prop :=
  ∀ (dp un : Nat) (gd : Option (List Code)) (cn : Str) (cs : Scope) (a : Addr) (ccd : Value) (cl : List (Str × Addr)) (outer : List Env) (A₀ : Around) (base h₀ : Heap) (L : Addr) (m : Str → Option Value) (s : Shared) (Q E : Value → Shared → Prop),
    Below A₀ base outer h₀ → Fr h₀ L s.heap m → K.In h₀ → Top p loose mean mg mb h₀ → cs.kind = .function → dp + D < recursionLimit → un + U < cLine → pre s.heap →
    (∀ (t : Tok) (h' : Heap) (tk' : Nat), Fr h₀ L h' m → (∀ b o, s.heap.get? b = some o → h'.get? b = some o) → Q (R t) { s with heap := h', toks := tk' }) →
    wpAny (model prog w) (ktrTop dp un gd cn cs L a ccd cl outer) (call (.ref f) vs kw) Q E s
theorem news_kept {h₀ h h' : Heap} {L : Addr} {news : List (Addr × Obj)} (N : News h₀ L h news) (k : ∀ b o, h.get? b = some o → h'.get? b = some o) : News h₀ L h' news := fun p hp => ⟨k _ _ (N p hp).1, (N p hp).2⟩
end Mine
namespace Mine
section
variable {prog : Program} {w : World} {A : Around} {E : Value → Shared → Prop} {s : Shared} {h₀ : Heap} {L : Addr} {m : Str → Option Value} {news : List (Addr × Obj)}
/-- t[a:] of a tuple of the ledger -/
theorem slice_tup {value slice : PySem.Expr} {l : Addr} {items : List Value} {n a : Nat} {u : Tok} {Q : Value → Shared → Prop}
    (F : Fr h₀ L s.heap m) (N : News h₀ L s.heap news) (hm : (l, ({ cls := .type "tuple", data := .seq items.toArray n } : Obj)) ∈ news) (h1 : 1 ≤ a) (ha : a ≤ items.length) (hz : items.length ≤ 1000)
    (h : ∀ D h', Fr h₀ L h' m → News h₀ L h' ((D, ({ cls := .type "tuple", data := .seq (items.drop a).toArray } : Obj)) :: news) → (∀ p ∈ news, p.1 < D) → Q (.ref D) { s with heap := h' })
    (hs : subscripted slice false (.ref l) (.ref s.heap.objs.size) = operate [.ref s.heap.objs.size, .ref l] (getItem (.ref l) (.ref s.heap.objs.size)))
    (ht : ∀ r, letTemporaryGo value (.ref l) r = pure ()) :
    wpAny (model prog w) A (subscriptTail value slice (.ref l) (.ref s.heap.objs.size)) Q E { s with heap := s.heap.push { cls := .type "slice", data := .fields #[.int a u, .none, .none] } } := by
  have k0 : ∀ b o, s.heap.get? b = some o → (s.heap.push { cls := .type "slice", data := .fields #[.int a u, .none, .none] }).get? b = some o := fun _ _ e => Heap.get?_push_of_some _ e
  have hT : IsTup (s.heap.push { cls := .type "slice", data := .fields #[.int a u, .none, .none] }) l items.toArray := ⟨_, k0 _ _ (N _ hm).1, rfl, n, rfl⟩
  refine subscriptTail_ops hT.typeIs slot_tuple_getitem.lookup (getItem_tuple_from hT (Heap.IsSliceOf.new ..) h1 (by simpa using ha) ?_ (by rw [sizeLine_eq]; simp; omega)) hs ht
  have N1 := News.push (F.push { cls := .type "slice", data := .fields #[.int a u, .none, .none] }) (news_kept N k0) { cls := .type "tuple", data := .seq (items.drop a).toArray }
  exact h _ _ ((F.push _).push _) (by simpa using N1) fun q hq => by
    show _ < (s.heap.push _).objs.size
    rw [Heap.size_push]
    exact Nat.lt_succ_of_lt (Heap.lt_size (N q hq).1)
end
end Mine

namespace Mine
theorem join_one (g v : Str) : Txt.join g [v] = v := by
  show (⟨_⟩ : Str) = v
  rfl
theorem keep_sub {h₀ h h' : Heap} {L b : Addr} {o : Obj} {sub sub' : List (Addr × Obj)} (N : News h₀ L h sub) (N' : News h₀ L h' sub') (hs : ∀ p ∈ sub, p.1 = b → p ∈ sub') (k0 : b ∉ sub.map (·.1) → h.get? b = some o → h'.get? b = some o) (e : h.get? b = some o) : h'.get? b = some o := by
  by_cases hb : b ∈ sub.map (·.1)
  · obtain ⟨p, hp, rfl⟩ := List.mem_map.mp hb
    have e1 := (N p hp).1
    rw [e1] at e
    cases e
    exact (N' p (hs p hp rfl)).1
  · exact k0 hb e
end Mine
namespace Mine
/-- a list's values are pairs of texts -/
inductive RowsAt (h : Heap) : List Value → List (Str × Str) → Prop
  | nil : RowsAt h [] []
  | cons {T : Addr} {k v : Str} {t u : Tok} {vs : List Value} {rows : List (Str × Str)} : IsTup h T #[.str k t, .str v u] → RowsAt h vs rows → RowsAt h (.ref T :: vs) ((k, v) :: rows)
theorem RowsAt.keeps {h h' : Heap} {vs : List Value} {rows : List (Str × Str)} (r : RowsAt h vs rows) (k : ∀ b o, h.get? b = some o → h'.get? b = some o) : RowsAt h' vs rows := by
  induction r with
  | nil => exact .nil
  | cons ht _ ih => exact .cons (ht.keeps k) ih
theorem RowsAt.get {h : Heap} {vs : List Value} {rows : List (Str × Str)} (r : RowsAt h vs rows) {i : Nat} {v : Value} (e : vs[i]? = some v) : ∃ T k x t u, v = .ref T ∧ rows[i]? = some (k, x) ∧ IsTup h T #[.str k t, .str x u] := by
  induction r generalizing i with
  | nil => simp at e
  | cons ht _ ih =>
    cases i with
    | zero =>
      simp at e
      subst e
      exact ⟨_, _, _, _, _, rfl, rfl, ht⟩
    | succ i => exact ih (by simpa using e)
theorem RowsAt.length {h : Heap} {vs : List Value} {rows : List (Str × Str)} (r : RowsAt h vs rows) : vs.length = rows.length := by
  induction r with
  | nil => rfl
  | cons _ _ ih => simp [ih]
theorem RowsAt.snoc {h : Heap} {vs : List Value} {rows : List (Str × Str)} {T : Addr} {k v : Str} {t u : Tok} (r : RowsAt h vs rows) (ht : IsTup h T #[.str k t, .str v u]) : RowsAt h (vs ++ [.ref T]) (rows ++ [(k, v)]) := by
  induction r with
  | nil => exact .cons ht .nil
  | cons ht _ ih => exact .cons ht ih
end Mine
namespace Mine
section
variable {prog : Program} {w : World} {A : Around} {E : Value → Shared → Prop} {s : Shared} {Q : Value → Shared → Prop}
theorem str_item {value slice : PySem.Expr} {x : Str} {t u : Tok} {i : Int} (h0 : 0 ≤ i) (h1 : i < x.length) (hx : x.length ≤ 1000000) (h : Q (.str ⟨#[x.cps.getD i.toNat 0]⟩ s.toks) { s with toks := s.toks + 1 })
    (hs : subscripted slice false (.str x t) (.int i u) = operate [.str x t, .int i u] (getItem (.str x t) (.int i u))) (ht : ∀ r, letTemporaryGo value (.str x t) r = pure ()) :
    wpAny (model prog w) A (subscriptTail value slice (.str x t) (.int i u)) Q E s := by
  refine subscriptTail_ops (typeIs_str _ _ _) F.slot_str_getitem.lookup (SB.getItem (fitsSsize_of (N := 9223372036854775808) (by omega) (by omega) (Int.le_refl _)) (charAt_isSome (by omega) h1) ?_) hs ht
  have hl : i.toNat < x.cps.size := by
    have : (x.length : Int) = x.cps.size := rfl
    omega
  rw [item_meets h0 (n := x.cps.getD i.toNat 0) (by simp [Array.getD, hl])]
  exact h
end
end Mine
namespace Mine
section
variable {prog : Program} {w : World} {A : Around} {E : Value → Shared → Prop} {s : Shared} {h₀ : Heap} {L : Addr} {m : Str → Option Value} {news news' : List (Addr × Obj)}
/-- list += list, both of the ledger -/
theorem iadd_list {l b : Addr} {xs ys : List Value} {n n2 : Nat} {Q : Value → Shared → Prop} (F : Fr h₀ L s.heap m) (N : News h₀ L s.heap news) (U : Upd l (listOf xs.toArray n) (listOf (xs ++ ys).toArray (n + 1)) news news') (hb : (b, listOf ys.toArray n2) ∈ news)
    (hy : 1 ≤ ys.length) (hz : xs.length + ys.length ≤ 1000) (h : ∀ h', Fr h₀ L h' m → News h₀ L h' news' → Q (.ref l) { s with heap := h' }) : wpAny (model prog w) A (inplaceOp .Add (.ref l) (.ref b)) Q E s := by
  obtain ⟨pre, post, rfl, rfl, a, c⟩ := U.split
  have z := N (l, listOf xs.toArray n) (List.mem_append.mpr (.inr (.head _)))
  have zb := (N _ hb).1
  have hsz' : xs.toArray.size + ys.toArray.size ≤ sizeLine := by rw [sizeLine_eq]; simp; omega
  have hfi : fillsInplaceSlot (.type "list") "add" (Operator.Add == .Add) = pure false := by
    unfold fillsInplaceSlot
    show (typeLookup (.type "list") (dunderI "add") >>= fun fi => pure (fi.isSome && !isSeqSlot fi)) = pure false
    rw [PySem.F.slot_list_iadd.lookup]
    have e : isSeqSlot (some (.builtin "list.__iadd__")) = true := by decide +kernel
    show (pure (true && !isSeqSlot (some (.builtin "list.__iadd__"))) : Sem Bool) = pure false
    rw [e]
    rfl
  have hsi : seqSlot? (.type "list") (dunderI "add") = pure (some (.builtin "list.__iadd__")) := PySem.seqSlot_of PySem.F.slot_list_iadd.lookup (by decide +kernel)
  unfold inplaceOp
  refine wpAny_holding ?_
  refine wpAny_bind (wpAny_typeOf ⟨_, z.1, rfl⟩ (wpAny_bind (wpAny_of_eq hfi ?_)))
  show wpAny _ A (if false = true then _ else _) Q E s
  rw [if_neg Bool.false_ne_true]
  refine wpAny_bind (wpAny_binaryOp1_none (nm := "add") ⟨_, z.1, rfl⟩ ⟨_, zb, rfl⟩ noFill_list_add ?_)
  refine wpAny_bind (wpAny_of_eq hsi ?_)
  refine wpAny_bind (wpAny_rule ?_)
  refine call_meets PySem.F.slot_list_iadd ⟨_, z.1, rfl⟩ PySem.F.entry_list_iadd (PySem.F.args_list_iadd_2 _ _) (AutoSeq1.list___iadd___list_list_0 l xs.toArray n b ys.toArray n2 (extend_door hsz') (Nat.le_trans (Nat.le_add_right _ _) hsz')) ⟨z.1, zb, ?_⟩
  have e : xs.toArray ++ ys.toArray = (xs ++ ys).toArray := by simp
  have ho' : (s.heap.update l (Obj.mapSeq fun x => x ++ ys.toArray)).get? l = some (listOf (xs ++ ys).toArray (n + 1)) := by
    rw [Heap.get?_update_self _ z.1 (by rw [mapSeq_app]; rfl), mapSeq_app, e]
    have : ((xs ++ ys).toArray.size == xs.toArray.size) = false := by
      simp
      intro e
      rw [e] at hy
      exact absurd hy (by decide)
    rw [this]
    rfl
  exact h _ (F.change (Heap.SameBut.update ..) z.2.1 z.2.2) (news_set N a c (Heap.SameBut.update ..) ho')
end
end Mine
end
section
open PySem PySem.W PyProof.Rows
set_option Elab.async false
set_option maxRecDepth 100000
namespace Mine
open Builtin Builtin.Re PySem.Calls
theorem slot_pat_search : Slot "re.Pattern" "search" "re.Pattern.search" :=
  .of (owner := "re.Pattern") (n := "search") (by rw [typeLookup_type, builtinLookup_eq_fast]; kernel_rfl) (by decide +kernel) (by decide +kernel) (by decide +kernel)
    (by first | exact .inl (by decide +kernel) | exact .inr (by decide +kernel)) (by rw [isSubtype_type]; kernel_rfl)
theorem entry_pat_search : entryFor table "re.Pattern.search" = some Builtin.«re.Pattern.search» := entryFor_of_fast (by kernel_rfl)
theorem type_pat_search : typeOf (.builtin "re.Pattern.search") = pure (.type "method_descriptor") := by show builtinType _ = _; rw [builtinType_eq_fast]; kernel_rfl
theorem args_pat_search (a b : Value) : argsOk "re.Pattern.search" ⟨[a, b], []⟩ := by unfold argsOk; kernel_rfl
theorem plain_pat : PlainAttrs "re.Pattern" :=
  ⟨⟨"object.__getattribute__", by rw [typeLookup_type, builtinLookup_eq_fast]; kernel_rfl, by decide +kernel⟩, by rw [typeLookup_type, builtinLookup_eq_fast]; kernel_rfl⟩
theorem getMethod_pat {M : Model} {A : Around} {E : Value → Shared → Prop} {s : Shared} {a : Addr} {o : Obj} {pl : Sem Bool} {Q : Value × List Value → Shared → Prop} (ho : s.heap.get? a = some o) (hc : o.cls = .type "re.Pattern") (hd : o.dict = none)
    (h : Q (.builtin "re.Pattern.search", [.ref a]) s) : wpAny M A (getMethod (.ref a) (Str.ofString "search") pl) Q E s :=
  getMethod_builtin ⟨o, ho, hc⟩ plain_pat slot_pat_search type_pat_search (fun b e => by cases e; exact ⟨o, ho, hd⟩) h
/-! the engine: no sign of the text is of the set -/
def SetNo (code : Array Nat) (c : Nat) : Prop := ∀ seen, ∃ seen', Sre.inSet code c code.size 5 true seen = .ok (false, seen')
theorem admitted_none (m : Sre.M) (h : ∀ i, i < m.lim → SetNo m.code (m.text.getD i 0)) : ∀ fuel s seen, ∃ seen', Sre.M.admitted m fuel s seen = .ok (none, seen')
  | 0, _, seen => ⟨seen, rfl⟩
  | fuel + 1, s, seen => by
    unfold Sre.M.admitted
    by_cases hs : s ≥ m.lim
    · exact ⟨seen, by rw [if_pos hs]⟩
    · obtain ⟨s1, e⟩ := h s (by omega) seen
      obtain ⟨s2, e2⟩ := admitted_none m h fuel (s + 1) s1
      exact ⟨s2, by rw [if_neg hs, e]; exact e2⟩
theorem run_say (m : Sre.M) (ho : m.outcome = none) (ha : m.answer = some false) (hf : m.frames = []) : (m.runFor reTurnSteps).outcome = some .failed := by
  obtain ⟨code, text, lim, start, lastStart, wholeText, mustAdvance, pc, pos, handed, outermost, marks, lastmark, lastindex, loops, inner, frames, weight, answer, seen, outcome⟩ := m
  simp only at ho ha hf
  subst ho ha hf
  rfl
theorem attemptFrom_none (m : Sre.M) (hf : m.hasFirstSet = true) (h : ∀ i, i < m.lim → SetNo m.code (m.text.getD i 0)) (s : Nat) (f : Bool) (ho : m.outcome = none) (hfr : m.frames = []) :
    ((m.attemptFrom s f).runFor reTurnSteps).outcome = some .failed := by
  unfold Sre.M.attemptFrom
  obtain ⟨seen', e⟩ := admitted_none m h (m.lim + 1 - s) s m.seen
  rw [hf, e]
  exact run_say _ ho rfl hfr
def HasSet (code : Array Nat) : Bool := (match Sre.ops[code.getD 0 0]? with | some Sre.Op.INFO => true | _ => false) && code.getD 2 0 == 4
theorem search_none (code x : Array Nat) (g : Nat) (h1 : (Sre.header code).1 = 1) (hf : HasSet code = true) (h : ∀ i, i < x.size → SetNo code (x.getD i 0)) :
    ((Sre.forSearch code x g 0 x.size false).runFor reTurnSteps).outcome = some .failed := by
  unfold Sre.forSearch
  rw [h1]
  dsimp only
  split
  · exact run_say _ rfl rfl rfl
  · refine attemptFrom_none _ ?_ h _ _ rfl rfl
    exact hf
section
variable {M : Model} {A : Around} {E : Value → Shared → Prop} {s : Shared}
theorem drive_end (m : Sre.M) {o : Sre.Outcome} (h : (m.runFor reTurnSteps).outcome = some o) (n : Nat) : reDrive (n + 1) m = pure (m.runFor reTurnSteps) := by
  unfold reDrive
  simp [h]
theorem rules_done {Q : PUnit → Shared → Prop} (c : Nat → Bool) (n : Nat → String) (h : Q ⟨⟩ s) : ∀ l : List Nat, wpAny M A (forIn l PUnit.unit fun i _ => if c i = true then (do
        rule (n i)
        pure (ForInStep.yield PUnit.unit)) else pure (ForInStep.yield PUnit.unit)) Q E s
  | [] => by rw [List.forIn_nil]; exact wpAny_pure h
  | i :: r => by
    rw [List.forIn_cons]
    refine wpAny_bind ?_
    have last := rules_done c n h r
    cases hc : c i with
    | true => exact wpAny_bind (wpAny_rule (wpAny_pure last))
    | false => exact wpAny_pure last
theorem toEnd_none {m : Sre.M} {Q : Option Sre.M → Shared → Prop} (hm : (m.runFor reTurnSteps).outcome = some .failed) (h : Q none s) : wpAny M A (reRunToEnd m) Q E s := by
  unfold reRunToEnd
  have e : (2 ^ 64 : Nat) = (2 ^ 64 - 1) + 1 := by decide
  rw [e, drive_end m hm]
  refine wpAny_bind (wpAny_pure (wpAny_bind ?_))
  refine rules_done _ _ ?_ _
  rw [hm]
  exact wpAny_pure h
end
theorem target_tree (p : Value) (x : Str) (t : Tok) : reTarget "re.Pattern.search" "search" ⟨[p, .str x t], []⟩ = (do
  let fs ← fieldsOf p
  let want := reRawNat (fs.getD 6 .none)
  if (want == 0 && (0 : Nat) == 1) = true then raiseError "TypeError" "cannot use a string pattern on a bytes-like object"
  if (want == 1 && (0 : Nat) == 0) = true then raiseError "TypeError" "cannot use a bytes pattern on a string-like object"
  pure { pattern := p, string := .str x t, code := (← reRawItems (fs.getD 5 .none)).map (·.toNat), text := x.cps, kind := 0, groups := reRawNat (fs.getD 2 .none), pos := min (0 : Int).toNat x.cps.size, lim := min (2 ^ 63 - 1 : Int).toNat x.cps.size }) := rfl
theorem re_search {prog : Program} {w : World} {A : Around} {E : Value → Shared → Prop} {s : Shared} {Q : Value → Shared → Prop} {pat tup : Addr} {x : Str} {t : Tok} {op ot : Obj} {fs items : Array Value} {n : Nat} (code : Array Nat)
    (hp : s.heap.get? pat = some op) (hc : op.cls = .type "re.Pattern") (hd : op.data = .fields fs) (ht : s.heap.get? tup = some ot) (htd : ot.data = .seq items n)
    (h6 : reRawNat (fs.getD 6 .none) = 0) (h5 : fs.getD 5 .none = .ref tup)
    (hcode : (items.map reRawOf).map (·.toNat) = code) (h1 : (Sre.header code).1 = 1) (hf : HasSet code = true)
    (hx : x.length ≤ 1000000) (hn : ∀ i, i < x.cps.size → SetNo code (x.cps.getD i 0)) (h : Q .none s) :
    wpAny (model prog w) A (call (.builtin "re.Pattern.search") [.ref pat, .str x t]) Q E s := by
  refine wpAny_call_entry slot_pat_search ⟨op, hp, hc⟩ entry_pat_search ?_ (args_pat_search _ _)
  unfold Builtin.«re.Pattern.search»
  rw [target_tree]
  refine wpAny_bind (wpAny_bind (wpAny_fieldsOf hp hd ?_))
  dsimp only
  rw [h6, h5]
  simp only [Nat.reduceBEq, Bool.and_false, Bool.false_and, Bool.false_eq_true, if_false]
  refine wpAny_bind ?_
  unfold reRawItems
  refine wpAny_bind (wpAny_seqItems ht htd (wpAny_pure (wpAny_pure ?_)))
  have e0 : min (0 : Int).toNat x.cps.size = 0 := by simp
  have e1 : min (2 ^ 63 - 1 : Int).toNat x.cps.size = x.cps.size := by
    have : x.cps.size ≤ 1000000 := hx
    omega
  simp only [e0, e1, Option.getD_some, hcode]
  unfold reAnswer
  exact wpAny_bind (toEnd_none (search_none _ _ _ h1 hf hn) (wpAny_pure ⟨_, rfl, h⟩))
/-- the two sets of headers.py -/
def nameCode : Array Nat := #[14, 10, 4, 1, 1, 22, 0, 31, 16, 127, 0, 13, 7, 22, 0, 31, 16, 127, 0, 1]
def valueCode : Array Nat := #[14, 14, 4, 1, 1, 9, 4294966783, 0, 0, 2147483648, 0, 0, 0, 0, 0, 13, 11, 9, 4294966783, 0, 0, 2147483648, 0, 0, 0, 0, 0, 1]
theorem nameNo {c : Nat} (h1 : 32 ≤ c) (h2 : c < 127) : SetNo nameCode c := by
  intro seen
  refine ⟨((seen.add 22).add 16).add 0, ?_⟩
  show (if (decide (0 ≤ c) && decide (c ≤ 31)) = true then _ else _) = _
  rw [if_neg (by simp; omega)]
  show (if (c == 127) = true then _ else _) = _
  rw [if_neg (by simp; omega)]
  rfl
theorem valueNo {c : Nat} (h1 : 32 ≤ c) (h2 : c < 127) : SetNo valueCode c := by
  intro seen
  refine ⟨(seen.add 9).add 0, ?_⟩
  show (if (decide (c < 256) && (valueCode.getD (5 + (1 + c / 32)) 0).testBit (c % 32)) = true then _ else _) = _
  rw [if_neg (by rw [(by decide +kernel : ∀ c, c < 127 → 32 ≤ c → (decide (c < 256) && (valueCode.getD (5 + (1 + c / 32)) 0).testBit (c % 32)) = false) c h2 h1]; exact Bool.false_ne_true)]
  rfl
/-- a text of plain signs -/
def Plain (x : Str) : Prop := ∀ i, i < x.cps.size → 32 ≤ x.cps.getD i 0 ∧ x.cps.getD i 0 < 127
section
variable {prog : Program} {w : World} {A : Around} {E : Value → Shared → Prop} {s : Shared} {Q : Value → Shared → Prop} {pat tup : Addr} {x : Str} {t : Tok} {op ot : Obj} {fs items : Array Value} {n : Nat} {K : Frag}
theorem getMethod_patK {M : Model} {pl : Sem Bool} {Q : Value × List Value → Shared → Prop} (X : K.In s.heap) (ho : K.lookup pat = some op) (hc : op.cls = .type "re.Pattern") (hd : op.dict = none)
    (h : Q (.builtin "re.Pattern.search", [.ref pat]) s) : wpAny M A (getMethod (.ref pat) (Str.ofString "search") pl) Q E s := getMethod_pat (X _ _ ho) hc hd h
theorem re_name (X : K.In s.heap) (hp : K.lookup pat = some op) (hc : op.cls = .type "re.Pattern") (hd : op.data = .fields fs) (ht : K.lookup tup = some ot) (htd : ot.data = .seq items n)
    (h6 : reRawNat (fs.getD 6 .none) = 0) (h5 : fs.getD 5 .none = .ref tup) (hcode : (items.map reRawOf).map (·.toNat) = nameCode) (hx : x.length ≤ 1000000) (hn : Plain x) (h : Q .none s) :
    wpAny (model prog w) A (call (.builtin "re.Pattern.search") [.ref pat, .str x t]) Q E s :=
  re_search nameCode (X _ _ hp) hc hd (X _ _ ht) htd h6 h5 hcode (by decide +kernel) (by decide +kernel) hx (fun i hi => nameNo (hn i hi).1 (hn i hi).2) h
theorem re_value (X : K.In s.heap) (hp : K.lookup pat = some op) (hc : op.cls = .type "re.Pattern") (hd : op.data = .fields fs) (ht : K.lookup tup = some ot) (htd : ot.data = .seq items n)
    (h6 : reRawNat (fs.getD 6 .none) = 0) (h5 : fs.getD 5 .none = .ref tup) (hcode : (items.map reRawOf).map (·.toNat) = valueCode) (hx : x.length ≤ 1000000) (hn : Plain x) (h : Q .none s) :
    wpAny (model prog w) A (call (.builtin "re.Pattern.search") [.ref pat, .str x t]) Q E s :=
  re_search valueCode (X _ _ hp) hc hd (X _ _ ht) htd h6 h5 hcode (by decide +kernel) (by decide +kernel) hx (fun i hi => valueNo (hn i hi).1 (hn i hi).2) h
end
end Mine
end
section
open PySem PySem.W PyProof.Rows PyProof.V PySem.Calls PyProof.Rows.LCg
set_option Elab.async false
set_option maxRecDepth 100000
namespace Mine
/-- a turn's end over a ledger that stays -/
def TurnEnd (h₀ : Heap) (L : Addr) (m : Str → Option Value) (s₁ : Shared) (led : List (Addr × Obj)) (J : Prop) (s₂ : Shared) : Prop :=
  ∃ h' tk, s₂ = { s₁ with heap := h', toks := tk } ∧ Fr h₀ L h' m ∧ News h₀ L h' led ∧ J
theorem TurnEnd.intro {h₀ h' : Heap} {L : Addr} {m : Str → Option Value} {s₁ : Shared} {led all : List (Addr × Obj)} {J : Prop} {tk : Nat} (F : Fr h₀ L h' m) (N : News h₀ L h' all) (hs : ∀ p ∈ led, p ∈ all) (j : J) : TurnEnd h₀ L m s₁ led J { s₁ with heap := h', toks := tk } :=
  ⟨h', tk, rfl, F, fun p hp => N p (hs p hp), j⟩
section
variable {prog : Program} {w : World} {A : Around} {h₀ : Heap} {L : Addr} {m : Str → Option Value} {env : Env} {ct elt : PySem.Expr} {x x₂ : Str} {scope : Scope} {cl : List (Str × Addr)} {s : Shared} {S : List (Addr × Obj) → Prop} {P : Nat → Value → Prop} {Fin : List Value → List (Addr × Obj) → Prop} {news : List (Addr × Obj)} {n : Nat}
theorem restT_ind (J : Nat → List Value → Prop) (hS : S news)
    (step : ∀ i ys, i < n → J i ys → ∀ v I oI C oC D m₂ h tk (E' : Value → Shared → Prop), P i v → NsObj oC m₂ → m₂ x = some v → Fr h₀ L h m → News h₀ L h ((I, oI) :: (C, oC) :: (D, lst ys) :: news) → Off3 I C D news → ((@Ne Nat I C) ∧ (@Ne Nat I D) ∧ (@Ne Nat C D)) →
      wpAny (model prog w) A (isTrue ct (compEnvC scope cl C env) (eval ct (compEnvC scope cl C env))) (fun ok s' => if ok = true then
        wpAny (model prog w) A (eval elt (compEnvC scope cl C env)) (fun y s'' => TurnEnd h₀ L m { s with heap := h, toks := tk } ((I, oI) :: (C, oC) :: (D, lst ys) :: news) (J (i + 1) (ys ++ [y])) s'') E' s'
        else TurnEnd h₀ L m { s with heap := h, toks := tk } ((I, oI) :: (C, oC) :: (D, lst ys) :: news) (J (i + 1) ys) s') E' { s with heap := h, toks := tk })
    (fin : ∀ ys, J n ys → Fin ys news) : ∀ k i ys, k + i = n → J i ys → LCt.CompRestT prog w A h₀ L m env ct elt x scope cl s S P Fin k i ys news
  | 0, i, ys, e, j => LCt.CompRestT.zero (fin ys (by have : i = n := by omega
                                                     exact this ▸ j))
  | k + 1, i, ys, e, j => LCt.CompRestT.succ fun v I oI C oC D m₂ h tk E' hv hC hx F N off ne => by
    refine wpAny_mono (step i ys (by omega) j v I oI C oC D m₂ h tk E' hv hC hx F N off ne) (fun ok s' h' => ?_) fun _ _ e => e
    cases ok with
    | true =>
      simp only [if_true] at h' ⊢
      refine wpAny_mono h' (fun y s'' t => ?_) fun _ _ e => e
      obtain ⟨h₂, tk₂, rfl, F₂, N₂, j₂⟩ := t
      exact ⟨h₂, tk₂, news, rfl, F₂, N₂, off, hS, restT_ind J hS step fin k (i + 1) _ (by omega) j₂⟩
    | false =>
      simp only [Bool.false_eq_true, if_false] at h' ⊢
      obtain ⟨h₂, tk₂, rfl, F₂, N₂, j₂⟩ := h'
      exact ⟨h₂, tk₂, news, rfl, F₂, N₂, off, hS, restT_ind J hS step fin k (i + 1) _ (by omega) j₂⟩
theorem restU_ind (J : Nat → List Value → Prop) (hS : S news)
    (step : ∀ i ys, i < n → J i ys → ∀ v I oI C oC D m₂ h tk (E' : Value → Shared → Prop), P i v → NsObj oC m₂ → m₂ x = some v → Fr h₀ L h m → News h₀ L h ((I, oI) :: (C, oC) :: (D, lst ys) :: news) → Off3 I C D news → ((@Ne Nat I C) ∧ (@Ne Nat I D) ∧ (@Ne Nat C D)) →
      wpAny (model prog w) A (eval elt (compEnvC scope cl C env)) (fun y s'' => TurnEnd h₀ L m { s with heap := h, toks := tk } ((I, oI) :: (C, oC) :: (D, lst ys) :: news) (J (i + 1) (ys ++ [y])) s'') E' { s with heap := h, toks := tk })
    (fin : ∀ ys, J n ys → Fin ys news) : ∀ k i ys, k + i = n → J i ys → LCg.CompRest prog w A h₀ L m env elt x scope cl s S P Fin k i ys news
  | 0, i, ys, e, j => LCg.CompRest.zero (fin ys (by have : i = n := by omega
                                                    exact this ▸ j))
  | k + 1, i, ys, e, j => LCg.CompRest.succ fun v I oI C oC D m₂ h tk E' hv hC hx F N off ne => by
    refine wpAny_mono (step i ys (by omega) j v I oI C oC D m₂ h tk E' hv hC hx F N off ne) (fun y s'' t => ?_) fun _ _ e => e
    obtain ⟨h₂, tk₂, rfl, F₂, N₂, j₂⟩ := t
    exact ⟨h₂, tk₂, news, rfl, F₂, N₂, off, hS, restU_ind J hS step fin k (i + 1) _ (by omega) j₂⟩
end
end Mine
namespace Mine
theorem rows_ground {h g : Heap} {h₀ : Heap} {L C x dx l : Addr} {od : Obj} {lv : Array Value} {n : Nat} {vs : List Value} {rows : List (Str × Str)} (R : RowsAt h vs rows) (N : News h₀ L h [(l, listOf lv n), (x, instObj C dx), (dx, od)]) (hod : od.cls = .type "dict")
    (hk : ∀ b o, b ≠ l → b ≠ x → b ≠ dx → h.get? b = some o → g.get? b = some o) : RowsAt g vs rows := by
  have n1 := (N _ (.head _)).1
  have n2 := (N _ (.tail _ (.head _))).1
  have n3 := (N _ (.tail _ (.tail _ (.head _)))).1
  induction R with
  | nil => exact .nil
  | @cons T k v t u vs rows ht _ ih =>
    obtain ⟨o, ho, hc, q, hd⟩ := ht
    have e1 : ∀ b ob, h.get? b = some ob → ob.cls ≠ .type "tuple" → T ≠ b := fun b ob hb hne e => hne (by subst e; rw [ho] at hb; cases hb; exact hc)
    exact .cons ⟨o, hk _ o (e1 _ _ n1 (fun e => absurd (Value.type.inj e) (by decide))) (e1 _ _ n2 (by intro e; cases e)) (e1 _ _ n3 (by rw [hod]; exact fun e => absurd (Value.type.inj e) (by decide))) ho, hc, q, hd⟩ ih
theorem strs_snoc {ys : List Value} {zs : List Str} (h : StrsAre ys zs) (z : Str) (t : Tok) : StrsAre (ys ++ [.str z t]) (zs ++ [z]) := by
  induction h with
  | nil => exact .cons _ _ .nil
  | cons y t _ ih => exact .cons y t ih
end Mine
namespace Mine
theorem filt_yes {α : Type} {p : α → Bool} {l : List α} {i : Nat} {r : α} (e : l[i]? = some r) (h : p r = true) : (l.take (i + 1)).filter p = (l.take i).filter p ++ [r] := by
  rw [List.take_add_one, e, List.filter_append]
  simp [h]
theorem filt_no {α : Type} {p : α → Bool} {l : List α} {i : Nat} {r : α} (e : l[i]? = some r) (h : p r = false) : (l.take (i + 1)).filter p = (l.take i).filter p := by
  rw [List.take_add_one, e, List.filter_append]
  simp [h]
end Mine
namespace Mine
/-- a goal that no line of the walk knows: the walk stops here -/
def Hold (P : Prop) : Prop := P
theorem Hold.out {P : Prop} (h : Hold P) : P := h
theorem Hold.mk {P : Prop} (h : P) : Hold P := h
end Mine
end
section
open PySem PySem.W PyProof.Rows PyProof.V PySem.Calls
set_option Elab.async false
set_option maxRecDepth 100000
namespace Mine
section
variable {prog : Program} {w : World} {A : Around} {E : Value → Shared → Prop} {s : Shared} {env : Env} {h₀ : Heap} {x : Str} {body : List Stmt} {Q : Flow → Shared → Prop}
theorem UnrPost.mono {L : Addr} {s₁ s₂ : Shared} {I : Addr} {it : Obj} {r r' : (Str → Option Value) → List (Addr × Obj) → Prop} {f : Flow} (h : UnrPost h₀ L s₁ I it r Q f s₂) (k : ∀ m n, r m n → r' m n) : UnrPost h₀ L s₁ I it r' Q f s₂ := by
  have g : ∀ {s₂}, UnrEnd h₀ L s₁ I it r s₂ → UnrEnd h₀ L s₁ I it r' s₂ := fun ⟨h', tk, m', news', e, F, N, o, q⟩ => ⟨h', tk, m', news', e, F, N, o, k _ _ q⟩
  cases f with
  | ret v => exact h
  | brk => exact h
  | next => exact g h
  | cont => exact g h
theorem listRest_ind {I : Addr} {lp : Addr × Obj} {vs : List Value} (J : Nat → (Str → Option Value) → List (Addr × Obj) → Prop)
    (step : ∀ i v m news, vs[i]? = some v → J i m news → ∀ (it : Obj) h tk, it.cls = .type "list_iterator" → Fr h₀ env.locals h (fun y => if y = x then some v else m y) → News h₀ env.locals h ((I, it) :: news) →
      wpAny (model prog w) A (execs body env) (UnrPost h₀ env.locals { s with heap := h, toks := tk } I it (fun m' n' => lp ∈ n' ∧ J (i + 1) m' n') Q) E { s with heap := h, toks := tk })
    (fin : ∀ m news, J vs.length m news → ∀ h tk, Fr h₀ env.locals h m → News h₀ env.locals h news → Q .next { s with heap := h, toks := tk }) :
    ∀ k i m news, k + i = vs.length → J i m news → ListRest prog w A E h₀ env x body Q s I lp (vs.drop i) m news
  | 0, i, m, news, e, j => by
    have hi : i = vs.length := by omega
    subst hi
    rw [List.drop_length]
    exact ListRest.zero (fin m news j)
  | k + 1, i, m, news, e, j => by
    have hlt : i < vs.length := by omega
    rw [List.drop_eq_getElem_cons hlt]
    refine ListRest.succ fun it h tk hc F N => ?_
    refine wpAny_mono (step i _ m news (List.getElem?_eq_getElem hlt) j it h tk hc F N) (fun f s' p => ?_) fun _ _ e => e
    exact UnrPost.mono p fun m' n' q => ⟨q.1, listRest_ind J step fin k (i + 1) m' n' (by omega) q.2⟩
end
end Mine
end
section
open PySem PySem.W PyProof.Rows PyProof.V PySem.Calls
set_option Elab.async false
set_option maxRecDepth 100000
namespace Mine
theorem AllObj.mono : ∀ {ws : List (Addr × String)} {A B : List (Addr × Obj) → Prop}, AllObj ws A → (∀ its, A its → B its) → AllObj ws B
  | [], _, _, h, k => k _ h
  | _ :: _, _, _, h, k => fun o ho => AllObj.mono (h o ho) fun its q => k _ q
section
variable {prog : Program} {w : World} {A : Around} {E : Value → Shared → Prop} {s : Shared} {env : Env} {h₀ : Heap} {target : PySem.Expr} {body : List Stmt} {Q : Flow → Shared → Prop}
theorem UnrPostW.mono {L : Addr} {s₁ s₂ : Shared} {its : List (Addr × Obj)} {r r' : (Str → Option Value) → List (Addr × Obj) → Prop} {f : Flow} (h : UnrPostW h₀ L s₁ its r Q f s₂) (k : ∀ m n, r m n → r' m n) : UnrPostW h₀ L s₁ its r' Q f s₂ := by
  have g : ∀ {s₂}, UnrEndW h₀ L s₁ its r s₂ → UnrEndW h₀ L s₁ its r' s₂ := fun ⟨h', tk, m', news', e, F, N, o, q⟩ => ⟨h', tk, m', news', e, F, N, o, k _ _ q⟩
  cases f with
  | ret v => exact h
  | brk => exact h
  | next => exact g h
  | cont => exact g h
theorem zipRest_ind {ws : List (Addr × String)} {keep : List (Addr × Obj)} {xs ys : List Value} (hl : xs.length = ys.length) (J : Nat → (Str → Option Value) → List (Addr × Obj) → Prop)
    (step : ∀ i v₁ v₂ m news, xs[i]? = some v₁ → ys[i]? = some v₂ → J i m news → ∀ T h tk, IsTup h T #[v₁, v₂] → Fr h₀ env.locals h m → AllObj ws (fun its => News h₀ env.locals h (its ++ news) →
      wpAny (model prog w) A (assign target env (.ref T)) (fun _ s₂ => wpAny (model prog w) A (execs body env) (UnrPostW h₀ env.locals { s with heap := h, toks := tk } its (fun m' n' => SubL keep n' ∧ J (i + 1) m' n') Q) E s₂) E { s with heap := h, toks := tk }))
    (fin : ∀ m news, J xs.length m news → ∀ h tk, Fr h₀ env.locals h m → News h₀ env.locals h news → Q .next { s with heap := h, toks := tk }) :
    ∀ k i m news, k + i = xs.length → J i m news → ItemsRest prog w A E h₀ env target body Q s ws keep (zipItems (xs.drop i) (ys.drop i)) m news
  | 0, i, m, news, e, j => by
    have hi : i = xs.length := by omega
    subst hi
    rw [List.drop_length]
    exact ItemsRest.zero (fin m news j)
  | k + 1, i, m, news, e, j => by
    have hlt : i < xs.length := by omega
    have hlt2 : i < ys.length := by omega
    rw [List.drop_eq_getElem_cons hlt, List.drop_eq_getElem_cons hlt2]
    refine ItemsRest.pair fun T t h tk hT F => AllObj.mono (step i _ _ m news (List.getElem?_eq_getElem hlt) (List.getElem?_eq_getElem hlt2) j T h tk hT F) fun its g N => ?_
    refine wpAny_mono (g N) (fun _ s₂ q => wpAny_mono q (fun f s' p => ?_) fun _ _ e => e) fun _ _ e => e
    exact UnrPostW.mono p fun m' n' q => ⟨q.1, zipRest_ind hl J step fin k (i + 1) m' n' (by omega) q.2⟩
end
end Mine
end
section
open PySem PySem.W PyProof.Rows PyProof.V PySem.Calls
set_option Elab.async false
set_option maxRecDepth 100000
namespace Mine
section
variable {prog : Program} {w : World} {A : Around} {E : Value → Shared → Prop} {s : Shared} {env : Env} {h₀ : Heap} {target : PySem.Expr} {body : List Stmt} {Q : Flow → Shared → Prop}
theorem valRest_ind {ws : List (Addr × String)} {keep : List (Addr × Obj)} {vs : List Value} (J : Nat → (Str → Option Value) → List (Addr × Obj) → Prop)
    (step : ∀ i v m news, vs[i]? = some v → J i m news → ∀ h tk, Fr h₀ env.locals h m → AllObj ws (fun its => News h₀ env.locals h (its ++ news) →
      wpAny (model prog w) A (assign target env v) (fun _ s₂ => wpAny (model prog w) A (execs body env) (UnrPostW h₀ env.locals { s with heap := h, toks := tk } its (fun m' n' => SubL keep n' ∧ J (i + 1) m' n') Q) E s₂) E { s with heap := h, toks := tk }))
    (fin : ∀ m news, J vs.length m news → ∀ h tk, Fr h₀ env.locals h m → News h₀ env.locals h news → Q .next { s with heap := h, toks := tk }) :
    ∀ k i m news, k + i = vs.length → J i m news → ItemsRest prog w A E h₀ env target body Q s ws keep ((vs.drop i).map .val) m news
  | 0, i, m, news, e, j => by
    have hi : i = vs.length := by omega
    subst hi
    rw [List.drop_length]
    exact ItemsRest.zero (fin m news j)
  | k + 1, i, m, news, e, j => by
    have hlt : i < vs.length := by omega
    rw [List.drop_eq_getElem_cons hlt]
    refine ItemsRest.val fun h tk F => AllObj.mono (step i _ m news (List.getElem?_eq_getElem hlt) j h tk F) fun its g N => ?_
    refine wpAny_mono (g N) (fun _ s₂ q => wpAny_mono q (fun f s' p => ?_) fun _ _ e => e) fun _ _ e => e
    exact UnrPostW.mono p fun m' n' q => ⟨q.1, valRest_ind J step fin k (i + 1) m' n' (by omega) q.2⟩
end
end Mine
end
section
open PySem PySem.W PyProof.Rows
set_option Elab.async false
namespace Mine
theorem see_eq {m : Str → Option Value} {x : Str} {v : Value} (e : m x = some v) : ∃ m' : Str → Option Value, m = fun y => if y = x then some v else m' y := ⟨m, funext fun y => by
  by_cases hy : y = x
  · rw [if_pos hy, hy, e]
  · rw [if_neg hy]⟩
theorem see_in {m : Str → Option Value} {x y : Str} {v : Value} {r : Option Value} (h : (fun z => if z = x then some v else m z) y = r) (n : y ≠ x) : m y = r := by
  have h' : (if y = x then some v else m y) = r := h
  rw [if_neg n] at h'
  exact h'
def lastBody : List Stmt → List Stmt
  | [] => []
  | [.FunctionDef _ _ b _ _ _ _ _ _ _] => b
  | _ :: r => lastBody r
def lastScope : List Stmt → Scope
  | [] => default
  | [.FunctionDef _ _ _ _ _ _ s _ _ _] => s
  | _ :: r => lastScope r
def nthS : List Stmt → Nat → Stmt
  | [], _ => .Pass default
  | s :: _, 0 => s
  | _ :: r, k + 1 => nthS r k
end Mine
end
section
open PySem PySem.W PyProof.Rows
set_option Elab.async false
namespace Mine
abbrev hdrDict (tk : Tok) (hsh : Int) (l : Addr) : Obj := dictOf [⟨hsh, .str (Str.ofString "_headers") tk, .ref l⟩] 1
abbrev tab3 (C x dx l : Addr) (tk : Tok) (hsh : Int) (vs : List Value) (n : Nat) : List (Addr × Obj) := [(l, listOf vs.toArray n), (x, instObj C dx), (dx, hdrDict tk hsh l)]
theorem keep_sub2 {h₀ g h h' : Heap} {L L' b : Addr} {o : Obj} {sub sub' : List (Addr × Obj)} (N : News h₀ L h sub) (N' : News g L' h' sub') (hs : ∀ p ∈ sub, p.1 = b → p ∈ sub') (k0 : b ∉ sub.map (·.1) → h.get? b = some o → h'.get? b = some o) (e : h.get? b = some o) : h'.get? b = some o := by
  by_cases hb : b ∈ sub.map (·.1)
  · obtain ⟨p, hp, rfl⟩ := List.mem_map.mp hb
    have e1 := (N p hp).1
    rw [e1] at e
    cases e
    exact (N' p (hs p hp rfl)).1
  · exact k0 hb e
end Mine
end
section
open PySem PySem.W PyProof.Rows PyProof.V PySem.Calls PySem.SeqAt
set_option Elab.async false
set_option maxRecDepth 100000
namespace Mine
section
variable {prog : Program} {w : World} {A : Around} {E : Value → Shared → Prop} {s : Shared} {h₀ : Heap} {L : Addr} {m : Str → Option Value} {news news' pre post : List (Addr × Obj)}
theorem setAll_raw {l D sl : Addr} {xs ys : Array Value} {n n2 : Nat} {Q : Unit → Shared → Prop} (hl : s.heap.get? l = some (listOf xs n)) (hD : s.heap.get? D = some (listOf ys n2)) (hne : (l == D) = false) (hs : s.heap.IsSliceOf sl .none .none .none)
    (hz : xs.size + ys.size ≤ sizeLine) (h : ∀ h' n', Heap.SameBut l s.heap h' → h'.get? l = some (listOf ys n') → Q () { s with heap := h' }) : wpAny (model prog w) A (setItem (.ref l) (.ref sl) (.ref D)) Q E s := by
  obtain ⟨os, hos, hcs, hds⟩ := id hs
  have hTs : s.TypeIs (.ref sl) "slice" := ⟨os, hos, hcs⟩
  have hTl : s.TypeIs (.ref l) "list" := ⟨_, hl, rfl⟩
  have hTD : s.TypeIs (.ref D) "list" := ⟨_, hD, rfl⟩
  unfold setItem
  try with_reducible refine wpAny_holding ?_
  first | refine wpAny_bind (wpAny_pure ?_) | skip
  refine wpAny_bind (wpAny_sequenceKey hTl (by decide) ?_)
  refine wpAny_bind (wpAny_callSpecial?_slot (name := Str.ofString "__setitem__") hTl PySem.F.slot_list_setitem
    (wpAny_call_entry PySem.F.slot_list_setitem hTl PySem.F.entry_list_setitem ?_ (PySem.F.args_list_setitem_3 _ _ _)))
  show wpAny _ _ (Builtin.List.listSubscript? (.ref sl) >>= _) _ _ s
  refine wpAny_bind ?_
  unfold Builtin.List.listSubscript?
  refine wpAny_bind (wpAny_specialOf hTs slice_no_index ?_)
  simp only [Option.isNone_none, if_true]
  refine wpAny_pure ?_
  show wpAny _ _ (typeOf (.ref sl) >>= _) _ _ s
  refine wpAny_bind (wpAny_typeOf hTs ?_)
  rw [if_neg (by decide)]
  rw [listSliceParts_eq]
  refine wpAny_bind (wpAny_bind (wpAny_field hos hds (x := .none) rfl (wpAny_bind (wpAny_listPart .none ?_))))
  rw [if_neg (by decide)]
  refine wpAny_bind (wpAny_field hos hds (x := .none) rfl (wpAny_bind (wpAny_listPart .none ?_)))
  refine wpAny_bind (wpAny_field hos hds (x := .none) rfl (wpAny_bind (wpAny_listPart .none (wpAny_pure ?_))))
  have hsr : ¬ (Builtin.List.listSameRef (.ref l) (.ref D) = true) := by
    show ¬ ((l == D) = true)
    rw [hne]
    decide
  rw [if_neg hsr]
  refine wpAny_bind (m := Builtin.List.listAllItems (.ref D) _) ?_
  unfold Builtin.List.listAllItems
  refine wpAny_bind (wpAny_typeOf hTD ?_)
  rw [if_pos (by decide)]
  unfold Builtin.List.listItems
  refine wpAny_bind (wpAny_seqItems hD rfl (wpAny_pure ?_))
  refine wpAny_bind (wpAny_bind (wpAny_seqItems hl rfl (wpAny_pure ?_)))
  have e : sliceBounds none none none xs.size = (((0 : Nat) : Int), (xs.size : Int), 1) := by
    simp only [sliceBounds, Option.getD_none, show (1 : Int) > 0 by decide, if_true]
    rfl
  refine wpAny_bind (wpAny_of_eq (sliceIndices_raw none none none xs.size (by decide)) ?_)
  rw [e]
  show wpAny _ _ (if ((1 : Int) == 1) = true then _ else _) _ _ s
  rw [if_pos (by decide)]
  refine wpAny_bind (wpAny_rule ?_)
  have hno : ¬ (Builtin.List.listTooLong (xs.size + ys.size) = true) := by
    intro h'
    have h'' : xs.size + ys.size > sizeLine := of_decide_eq_true h'
    omega
  rw [if_neg hno]
  have ef : xs.extract 0 ((0 : Nat) : Int).toNat ++ ys ++ xs.extract (max ((0 : Nat) : Int) (xs.size : Int)).toNat xs.size = ys := by
    have : (max ((0 : Nat) : Int) (xs.size : Int)).toNat = xs.size := by omega
    rw [this]
    simp
  refine wpAny_bind (m := updateSeq l _) (wpAny_updateSeq (o := listOf xs n) (xs := xs) hl rfl ?_ (by omega) ?_)
  · refine wpAny_bind (wpAny_letGo ?_)
    have hf : Obj.mapSeq (fun xs_1 => xs_1.extract 0 ((0 : Nat) : Int).toNat ++ ys ++ xs_1.extract (max ((0 : Nat) : Int) (xs.size : Int)).toNat xs_1.size) (listOf xs n) = listOf ys (if ys.size == xs.size then n else n + 1) := by
      show (⟨_, _, .seq (xs.extract 0 ((0 : Nat) : Int).toNat ++ ys ++ xs.extract (max ((0 : Nat) : Int) (xs.size : Int)).toNat xs.size) (if (xs.extract 0 ((0 : Nat) : Int).toNat ++ ys ++ xs.extract (max ((0 : Nat) : Int) (xs.size : Int)).toNat xs.size).size == xs.size then n else n + 1), _⟩ : Obj) = _
      rw [ef]
    have hg := Heap.get?_update_self (Obj.mapSeq fun xs_1 => xs_1.extract 0 ((0 : Nat) : Int).toNat ++ ys ++ xs_1.extract (max ((0 : Nat) : Int) (xs.size : Int)).toNat xs_1.size) hl (by rw [hf]; rfl)
    rw [hf] at hg
    exact wpAny_pure ⟨.none, rfl, wpAny_pure (h _ _ (Heap.SameBut.update ..) hg)⟩
  · show (xs.extract 0 ((0 : Nat) : Int).toNat ++ ys ++ xs.extract (max ((0 : Nat) : Int) (xs.size : Int)).toNat xs.size).size ≤ _
    rw [ef]
    omega
theorem setAll {l D : Addr} {xs ys : List Value} {n n2 : Nat} {Q : Unit → Shared → Prop} (F : Fr h₀ L s.heap m) (N : News h₀ L s.heap (pre ++ (l, listOf xs.toArray n) :: post)) (hD : (D, listOf ys.toArray n2) ∈ pre ++ (l, listOf xs.toArray n) :: post) (a : ∀ p ∈ pre, p.1 ≠ l) (c : ∀ p ∈ post, p.1 ≠ l) (hne : l ≠ D) (hz : xs.length + ys.length ≤ 2000)
    (h : ∀ h' n', Fr h₀ L h' m → News h₀ L h' (pre ++ (l, listOf ys.toArray n') :: post) → Q () { s with heap := h' }) :
    wpAny (model prog w) A (setItem (.ref l) (.ref s.heap.objs.size) (.ref D)) Q E { s with heap := s.heap.push { cls := .type "slice", data := .fields #[.none, .none, .none] } } := by
  have hm := N (l, listOf xs.toArray n) (List.mem_append.mpr (.inr (.head _)))
  have hd := N _ hD
  have N1 : News h₀ L (s.heap.push { cls := .type "slice", data := .fields #[.none, .none, .none] }) (pre ++ (l, listOf xs.toArray n) :: post) := fun p hp => ⟨Heap.get?_push_of_some _ (N p hp).1, (N p hp).2⟩
  refine setAll_raw (s := { s with heap := s.heap.push _ }) (Heap.get?_push_of_some _ hm.1) (Heap.get?_push_of_some _ hd.1) (beq_eq_false_iff_ne.mpr hne) (Heap.IsSliceOf.new ..) (by rw [sizeLine_eq]; simp; omega) fun h' n' hs hg => ?_
  exact h h' n' ((F.push _).change hs hm.2.1 hm.2.2) (news_set N1 a c hs hg)
end
end Mine
namespace Mine
section
variable {M : Model} {A : Around} {E : Value → Shared → Prop} {s : Shared} {K : Frag} {x C L f : Addr} {h₀ : Heap} {m : Str → Option Value} {ox : Obj} {od : Option Obj} {i : Value}
/-- del x[i] of an own class -/
theorem del_own {Q : Unit → Shared → Prop} (F : Fr h₀ L s.heap m) (X₀ : K.In h₀) (I : InstAt s.heap x ox C od) (hq : noSeq K C = true) (hs : findIn K (.ref C) "__delitem__" = some (some (.ref f))) (hf : isFn K (.ref f) = true)
    (h : wpAny M A (call (.ref f) [.ref x, i]) (fun _ s' => Q () s') E s) : wpAny M A (delItem (.ref x) i) Q E s := by
  have X := X₀.keeps F.keep
  unfold delItem sequenceKey
  refine wpAny_holding (wpAny_bind (wpAny_bind (I.type.here ?_)))
  refine wpAny_bind ((anyM_none X hq).here ?_)
  rw [if_pos (show (!false) = true from rfl)]
  exact wpAny_pure (wpAny_bind (special_fn X I hs (beq_iff_eq.mp hf) (wpAny_mono h (fun _ _ z => wpAny_pure z) fun _ _ z => z)))
end
end Mine
end
section
open PySem PySem.W PyProof.Rows PyProof.V PySem.Calls PyProof.Rows.LCg
set_option Elab.async false
set_option maxRecDepth 100000
namespace Mine
section
variable {prog : Program} {w : World} {A : Around} {E : Value → Shared → Prop} {s : Shared} {h₀ : Heap} {L : Addr} {m : Str → Option Value} {env : Env}
/-- what a comprehension with one target asks of a text -/
structure SrcS (prog : Program) (w : World) (A : Around) (h₀ : Heap) (L : Addr) (m : Str → Option Value) (env : Env) (elt : PySem.Expr) (x : Str) (scope : Scope) (cl : List (Str × Addr)) (Q : Value → Shared → Prop) (xv : Value) (s₁ : Shared) : Prop where
  go : ∃ (y : Str) (t : Tok) (news : List (Addr × Obj)), xv = .str y t ∧ A.handled = none ∧ Fr h₀ L s₁.heap m ∧ News h₀ L s₁.heap news ∧ y.cps.all (· < 128) = true ∧ y.cps.size ≤ sizeLine ∧
    ∀ s₂ : Shared, (∃ h, s₂ = { s₁ with heap := h }) → CompRest prog w A h₀ L m env elt x scope cl s₂ (fun _ => True) (SignAt y) (FinE h₀ L m s₂ Q) y.cps.size 0 [] news
theorem ListComp_S {elt iter : PySem.Expr} {x : Str} {px : Pos} {scope : Scope} {cl : List (Str × Addr)} {pos : Pos} {Q : Value → Shared → Prop} (F₀ : Fr h₀ L s.heap m)
    (hclos : closureFor scope env = pure cl) (hcell : ∀ y ∈ scope.names, y.2 ≠ .cell) (hkind : scope.kind = .function)
    (hnames : ∀ y ∈ scope.names, y.2 = .local → scope.names.lookup y.1 = some .local) (hx : scope.names.lookup x = some .local)
    (h : wpAny (model prog w) A (eval iter env) (SrcS prog w A h₀ L m env elt x scope cl Q) E s)
    (hs : ∀ x, foldedSetIterable iter env x = pure x := by intro _; rfl) :
    wpAny (model prog w) A (eval (.ListComp elt [⟨.Name x px, iter, [], 0⟩] scope pos) env) Q E s := by
  rw [eval_ListComp]
  refine wpAny_comprehension_free (use := none) rfl hs hclos hkind hnames (wpAny_mono h (fun xv s₁ h₁ => ?_) fun _ _ e => e)
  obtain ⟨y, t, news, rfl, hh, F, N, ha, hsz, R⟩ := h₁.go
  refine wpAny_pyIter_ascii ha ?_
  refine block_U (Walks.strAscii hh s₁.heap.objs.size y t) hsz (fun i h st => by obtain ⟨o, e, _⟩ := st; exact ⟨o, e⟩) (fun i h h' o nw st e e' _ _ _ => by obtain ⟨o', q, r⟩ := st; rw [e] at q; cases q; exact ⟨o, e', r⟩) hcell hkind hx ⟨_, Heap.get?_push_size _ rfl, rfl, rfl⟩ (fun b hb => ?_)
    (F.keeps fun _ _ e => Heap.get?_push_of_some _ e) (N.grown fun _ _ e => Heap.get?_push_of_some _ e) (Nat.ne_of_lt F.ns.lt) (next_is_new F) (fun p hp => Nat.ne_of_lt (Heap.lt_size (N p hp).1)) trivial (R _ ⟨_, rfl⟩) ?_
  · rw [List.mem_singleton.mp hb]
    show s₁.heap.objs.size < (s₁.heap.push _).objs.size
    rw [Heap.size_push]; exact Nat.lt_succ_self _
  · intro D C h tk m' ys news' F' N' o1 hn hC₀ hD₀ hCL hDL hCD offC fin
    refine ⟨m', hn, fun h'' hs'' => fin D h'' tk (F'.change hs'' hCL hC₀) (fun p hp => ?_) o1⟩
    refine ⟨hs''.extBut _ _ ?_ (N' p hp).1, (N' p hp).2⟩
    rcases List.mem_cons.mp hp with rfl | hp
    · exact Ne.symm hCD
    · exact offC p hp
end
end Mine
end
section
open PySem PySem.W PyProof.Rows PyProof.V PySem.Calls PyProof.Rows.LCg
set_option Elab.async false
set_option maxRecDepth 100000
set_option maxHeartbeats 2000000
namespace Mine
section
variable {prog : Program} {w : World} {A : Around} {E : Value → Shared → Prop} {s : Shared} {h₀ : Heap} {L : Addr} {m : Str → Option Value} {env : Env}
theorem loop_pairT {elt iter : PySem.Expr} {elts : List PySem.Expr} {x1} {tp : Pos} {ifs : List PySem.Expr} {scope : Scope} {pos : Pos} {it acc : Value} {env : Env} {R : Result → Shared → Prop} (I : Nat → Shared → Prop)
    (turn : ∀ n s, I n s → wpAny (model prog w) A (pyNext it) (fun r s₁ => match r with
      | none => R (.ok .next) s₁
      | some v => wpAny (model prog w) A (letOwnedTupleGo (.Tuple elts x1 tp) it v) (fun _ s₁' => wpAny (model prog w) A (assign (.Tuple elts x1 tp) env v) (fun _ s₂ =>
          wpAny (model prog w) A (forIn ifs true fun c r => if r = true then do let ok ← isTrue c env (eval c env); pure (ForInStep.yield ok) else pure (ForInStep.yield r)) (fun ok s₃ =>
            if ok = true then wpAny (model prog w) A (eval elt env) (fun x s₄ =>
              wpAny (model prog w) A (call (.builtin "list.append") [acc, x]) (fun _ s₅ => ∃ m, m < n ∧ I m s₅) (notedBy (model prog w) A env fun e s' => R (.error e) s') s₄) (notedBy (model prog w) A env fun e s' => R (.error e) s') s₃
            else ∃ m, m < n ∧ I m s₃) (notedBy (model prog w) A env fun e s' => R (.error e) s') s₂)
          (notedBy (model prog w) A env fun e s' => R (.error e) s') s₁') (notedBy (model prog w) A env fun e s' => R (.error e) s') s₁) (notedBy (model prog w) A env fun e s' => R (.error e) s') s)
    (n : Nat) (h : I n s) : codeAny (model prog w) A (.compLoop (.ListComp elt [⟨.Tuple elts x1 tp, iter, ifs, 0⟩] scope pos) 0 it acc env) R s := by
  refine codeAny_loop rfl I (fun n s hI => ?_) n h
  show wpAny _ A ((compTurn (.ListComp elt [⟨.Tuple elts x1 tp, iter, ifs, 0⟩] scope pos) 0 it acc env).onRaise (fun x => do noteFrame x env; theTreesLotGoes x)) _ _ s
  refine wpAny_noted ?_
  rw [compTurn_list]
  refine wpAny_bind (wpAny_standAt (wpAny_bind (wpAny_mono (turn n s hI) (fun r s₁ h₁ => ?_) fun _ _ h' => h')))
  cases r with
  | none => exact wpAny_pure h₁
  | some v =>
    refine wpAny_bind (wpAny_mono h₁ (fun _ s₁' h₁' => ?_) fun _ _ h' => h')
    refine wpAny_bind (wpAny_mono h₁' (fun _ s₂ h₂ => wpAny_bind (wpAny_mono h₂ (fun ok s₃ h₃ => ?_) fun _ _ h' => h')) fun _ _ h' => h')
    cases ok with
    | false => exact wpAny_pure ⟨rfl, h₃⟩
    | true => exact wpAny_bind (wpAny_bind (wpAny_mono h₃ (fun x s₄ h₄ => wpAny_bind (wpAny_mono h₄ (fun _ s₅ h₅ => wpAny_pure (wpAny_pure ⟨rfl, h₅⟩)) fun _ _ h' => h')) fun _ _ h' => h'))
/-- what a comprehension with two targets asks of its zip -/
structure SrcZ (prog : Program) (w : World) (A : Around) (h₀ : Heap) (L : Addr) (m : Str → Option Value) (env : Env) (elt : PySem.Expr) (ifs : List PySem.Expr) (x x₂ : Str) (scope : Scope) (cl : List (Str × Addr)) (Q : Value → Shared → Prop) (xv : Value) (s₁ : Shared) : Prop where
  go : ∃ (z TI TO i1 i2 l1 l2 : Addr) (xs ys : List Value) (news : List (Addr × Obj)) (J : Nat → List Value → Prop) (ol1 ol2 : Obj) (n : Nat),
    xv = .ref z ∧ A.handled = none ∧ ZipApart z TI TO i1 i2 l1 l2 ∧
    (IsZip s₁.heap z TI TO .none ∧ IsPair s₁.heap TI (.ref i1) (.ref i2) ∧ (∃ a b, IsPair s₁.heap TO a b) ∧ s₁.heap.IsListIter i1 l1 0 ∧ s₁.heap.IsListIter i2 l2 0 ∧ s₁.heap.IsList l1 xs.toArray ∧ s₁.heap.IsList l2 ys.toArray) ∧
    Fr h₀ L s₁.heap m ∧ News h₀ L s₁.heap news ∧ (∀ b, b = z ∨ b = TI ∨ b = TO ∨ b = i1 ∨ b = i2 → h₀.get? b = none ∧ b ≠ L ∧ ∀ p ∈ news, p.1 ≠ b) ∧ (l1, ol1) ∈ news ∧ (l2, ol2) ∈ news ∧
    n ≤ sizeLine ∧ min xs.length ys.length = n ∧ J 0 [] ∧
    (∀ i ys' v₁ v₂, xs[i]? = some v₁ → ys[i]? = some v₂ → J i ys' → ys'.length ≤ i → ∀ oz oTI oTO o1 o2 C oC D m₂ h tk (E' : Value → Shared → Prop), NsObj oC m₂ → m₂ x = some v₁ → m₂ x₂ = some v₂ → Fr h₀ L h m →
      News h₀ L h ((z, oz) :: (TI, oTI) :: (TO, oTO) :: (i1, o1) :: (i2, o2) :: (C, oC) :: (D, lst ys') :: news) →
      wpAny (model prog w) A (forIn ifs true fun c r => if r = true then do let ok ← isTrue c (compEnvC scope cl C env) (eval c (compEnvC scope cl C env)); pure (ForInStep.yield ok) else pure (ForInStep.yield r)) (fun ok s' => if ok = true then
        wpAny (model prog w) A (eval elt (compEnvC scope cl C env)) (fun y s'' => TurnEnd h₀ L m { s₁ with heap := h, toks := tk } ((z, oz) :: (TI, oTI) :: (TO, oTO) :: (i1, o1) :: (i2, o2) :: (C, oC) :: (D, lst ys') :: news) (J (i + 1) (ys' ++ [y])) s'') E' s'
        else TurnEnd h₀ L m { s₁ with heap := h, toks := tk } ((z, oz) :: (TI, oTI) :: (TO, oTO) :: (i1, o1) :: (i2, o2) :: (C, oC) :: (D, lst ys') :: news) (J (i + 1) ys') s') E' { s₁ with heap := h, toks := tk }) ∧
    (∀ D ys' h tk, J n ys' → Fr h₀ L h m → News h₀ L h ((D, lst ys') :: news) → (∀ p ∈ news, p.1 ≠ D) → Q (.ref D) { s₁ with heap := h, toks := tk })
end
end Mine
namespace Mine
section
variable {prog : Program} {w : World} {A : Around} {E : Value → Shared → Prop} {s : Shared} {h₀ : Heap} {L : Addr} {m : Str → Option Value} {env : Env}
theorem frB {h h' : Heap} {wr : List Addr} (F : Fr h₀ L h m) (hk : ∀ b o, b ∉ wr → h.get? b = some o → h'.get? b = some o) (hL : L ∉ wr) (hI : ∀ b ∈ wr, h₀.get? b = none) : Fr h₀ L h' m :=
  ⟨F.ns.at' fun o e => hk L o hL e, fun b o e => hk b o (fun hm => by rw [hI b hm] at e; cases e) (F.keep b o e), F.above⟩
theorem newsB {h h' : Heap} {wr : List Addr} {news : List (Addr × Obj)} (N : News h₀ L h news) (hk : ∀ b o, b ∉ wr → h.get? b = some o → h'.get? b = some o) (off : ∀ p ∈ news, p.1 ∉ wr) : News h₀ L h' news :=
  fun p hp => ⟨hk _ _ (off p hp) (N p hp).1, (N p hp).2⟩
set_option linter.unusedVariables false in
theorem block_Z {elt iter : PySem.Expr} {ifs : List PySem.Expr} {x x₂ : Str} {px px₂ tp : Pos} {tk} {scope : Scope} {cl : List (Str × Addr)} {pos : Pos} {s₂ : Shared} {z TI TO i1 i2 l1 l2 : Addr} {xs ys : List Value} {news : List (Addr × Obj)} {J : Nat → List Value → Prop} {ol1 ol2 : Obj} {n : Nat}
    {RR : Value → Addr → Result → Shared → Prop} (hh : A.handled = none) (D : ZipApart z TI TO i1 i2 l1 l2)
    (st : IsZip s₂.heap z TI TO .none ∧ IsPair s₂.heap TI (.ref i1) (.ref i2) ∧ (∃ a b, IsPair s₂.heap TO a b) ∧ s₂.heap.IsListIter i1 l1 0 ∧ s₂.heap.IsListIter i2 l2 0 ∧ s₂.heap.IsList l1 xs.toArray ∧ s₂.heap.IsList l2 ys.toArray)
    (F : Fr h₀ L s₂.heap m) (N : News h₀ L s₂.heap news) (off : ∀ b, b = z ∨ b = TI ∨ b = TO ∨ b = i1 ∨ b = i2 → h₀.get? b = none ∧ b ≠ L ∧ ∀ p ∈ news, p.1 ≠ b) (m1 : (l1, ol1) ∈ news) (m2 : (l2, ol2) ∈ news)
    (hsz : n ≤ sizeLine) (hlen : min xs.length ys.length = n) (hJ : J 0 [])
    (hcell : ∀ y ∈ scope.names, y.2 ≠ .cell) (hkind : scope.kind = .function) (hx : scope.names.lookup x = some .local) (hx₂ : scope.names.lookup x₂ = some .local) (hxx : x ≠ x₂)
    (turn : ∀ i ys' v₁ v₂, xs[i]? = some v₁ → ys[i]? = some v₂ → J i ys' → ys'.length ≤ i → ∀ oz oTI oTO o1 o2 C oC D m₂ h tk (E' : Value → Shared → Prop), NsObj oC m₂ → m₂ x = some v₁ → m₂ x₂ = some v₂ → Fr h₀ L h m →
      News h₀ L h ((z, oz) :: (TI, oTI) :: (TO, oTO) :: (i1, o1) :: (i2, o2) :: (C, oC) :: (D, lst ys') :: news) →
      wpAny (model prog w) A (forIn ifs true fun c r => if r = true then do let ok ← isTrue c (compEnvC scope cl C env) (eval c (compEnvC scope cl C env)); pure (ForInStep.yield ok) else pure (ForInStep.yield r)) (fun ok s' => if ok = true then
        wpAny (model prog w) A (eval elt (compEnvC scope cl C env)) (fun y s'' => TurnEnd h₀ L m { s₂ with heap := h, toks := tk } ((z, oz) :: (TI, oTI) :: (TO, oTO) :: (i1, o1) :: (i2, o2) :: (C, oC) :: (D, lst ys') :: news) (J (i + 1) (ys' ++ [y])) s'') E' s'
        else TurnEnd h₀ L m { s₂ with heap := h, toks := tk } ((z, oz) :: (TI, oTI) :: (TO, oTO) :: (i1, o1) :: (i2, o2) :: (C, oC) :: (D, lst ys') :: news) (J (i + 1) ys') s') E' { s₂ with heap := h, toks := tk })
    (hRR : ∀ D C h tk m' ys', J n ys' → Fr h₀ L h m → News h₀ L h ((D, lst ys') :: news) → (∀ p ∈ news, p.1 ≠ D) → h.Ns C m' → h₀.get? C = none → C ≠ L → C ≠ D → (∀ p ∈ news, p.1 ≠ C) → RR (.ref D) C (.ok .next) { s₂ with heap := h, toks := tk }) :
    wpAny (model prog w) A (newList []) (fun acc s₃ => wpAny (model prog w) A (newFunctionEnv scope env.globals cl [] env.qual none .none (some env)) (fun cenv s₄ =>
      codeAny (model prog w) A (.compStart (.ListComp elt [⟨.Tuple [.Name x px, .Name x₂ px₂] tk tp, iter, ifs, 0⟩] scope pos) 0 (.ref z) acc { cenv with scope := relabel scope env }) (RR acc cenv.locals) s₄) E s₃) E s₂ := by
  have W := WalksT.zip2 (prog := prog) (w := w) hh z TI TO i1 i2 l1 l2 D xs.toArray ys.toArray
  have hn : min xs.toArray.size ys.toArray.size = n := by simp [hlen]
  rw [hn] at W
  generalize hSt : (fun (i : Nat) (h : Heap) => IsZip h z TI TO .none ∧ IsPair h TI (.ref i1) (.ref i2) ∧ (∃ a b, IsPair h TO a b) ∧ h.IsListIter i1 l1 i ∧ h.IsListIter i2 l2 i ∧ h.IsList l1 xs.toArray ∧ h.IsList l2 ys.toArray) = St at W
  have st0 : St 0 s₂.heap := by rw [← hSt]; exact st
  have hObj : ∀ i h, St i h → ∃ oz oTI oTO o1 o2, h.get? z = some oz ∧ h.get? TI = some oTI ∧ h.get? TO = some oTO ∧ h.get? i1 = some o1 ∧ h.get? i2 = some o2 := by
    intro i h e
    rw [← hSt] at e
    obtain ⟨hz, hTI, ⟨a, b, hTO⟩, ⟨o1, e1, _⟩, ⟨o2, e2, _⟩, _⟩ := e
    exact ⟨_, _, _, o1, o2, hz, hTI, hTO, e1, e2⟩
  have wrOff : ∀ b ∈ [z, TO, i1, i2], h₀.get? b = none ∧ b ≠ L ∧ ∀ p ∈ news, p.1 ≠ b := by
    intro b hb
    simp only [List.mem_cons, List.not_mem_nil, or_false] at hb
    rcases hb with rfl | rfl | rfl | rfl
    · exact off _ (.inl rfl)
    · exact off _ (.inr (.inr (.inl rfl)))
    · exact off _ (.inr (.inr (.inr (.inl rfl))))
    · exact off _ (.inr (.inr (.inr (.inr rfl))))
  have hLwr : L ∉ [z, TO, i1, i2] := fun hb => (wrOff L hb).2.1 rfl
  have hTIwr : TI ∉ [z, TO, i1, i2] := by
    simp only [List.mem_cons, List.not_mem_nil, or_false, not_or]
    exact ⟨D.TIz, D.TITO, D.TIi1, D.TIi2⟩
  refine wpAny_newObj_type (wpAny_newFunctionEnv hcell (by intro y hy; simp at hy) (fun h₁ hns₁ hsb₁ => ?_) hkind)
  dsimp only at hns₁ hsb₁ ⊢
  generalize hH2 : s₂.heap.push { cls := .type "list", dict := none, data := .seq ([] : List Value).toArray } = H2 at hns₁ hsb₁ ⊢
  have hC : H2.objs.size = s₂.heap.objs.size + 1 := by rw [← hH2, Heap.size_push]
  have hDC : s₂.heap.objs.size ≠ H2.objs.size := by rw [hC]; exact Nat.ne_of_lt (Nat.lt_succ_self _)
  have below : ∀ b, b < s₂.heap.objs.size → b ≠ H2.objs.size ∧ b ≠ s₂.heap.objs.size := fun b hb => ⟨by rw [hC]; exact Nat.ne_of_lt (Nat.lt_succ_of_lt hb), Nat.ne_of_lt hb⟩
  have old : ∀ b o, s₂.heap.get? b = some o → h₁.get? b = some o := fun b o e => hsb₁.extBut b o (below b (Heap.lt_size e)).1 (Heap.get?_push_of_some _ (hH2 ▸ Heap.get?_push_of_some _ e))
  have hacc : h₁.get? s₂.heap.objs.size = some (lst []) := hsb₁.extBut _ _ hDC (Heap.get?_push_of_some _ (hH2 ▸ Heap.get?_push_size _ rfl))
  have hst₁ : St 0 h₁ := W.frame _ _ _ st0 fun b _ o e => old b o e
  have fresh : ∀ a, s₂.heap.objs.size ≤ a → s₂.heap.get? a = none := fun a ha => by
    cases e : s₂.heap.get? a with
    | none => rfl
    | some o' => exact absurd (Heap.lt_size e) (Nat.not_lt.mpr ha)
  have fresh₀ : ∀ a, s₂.heap.objs.size ≤ a → h₀.get? a = none := fun a ha => by
    cases e : h₀.get? a with
    | none => rfl
    | some o' => have := F.keep a o' e; rw [fresh a ha] at this; cases this
  have hD₀ : h₀.get? s₂.heap.objs.size = none := fresh₀ _ (Nat.le_refl _)
  have hC₀ : h₀.get? H2.objs.size = none := fresh₀ _ (by rw [hC]; exact Nat.le_succ _)
  have hLlt : L < s₂.heap.objs.size := F.ns.lt
  have hDL : s₂.heap.objs.size ≠ L := Ne.symm (below L hLlt).2
  have hCL : H2.objs.size ≠ L := Ne.symm (below L hLlt).1
  have fpLt : ∀ b ∈ [z, TI, TO, i1, i2, l1, l2], b < s₂.heap.objs.size := by
    intro b hb
    obtain ⟨oz, oTI, oTO, o1, o2, e1, e2, e3, e4, e5⟩ := hObj _ _ st0
    simp only [List.mem_cons, List.not_mem_nil, or_false] at hb
    rcases hb with rfl | rfl | rfl | rfl | rfl | rfl | rfl
    · exact Heap.lt_size e1
    · exact Heap.lt_size e2
    · exact Heap.lt_size e3
    · exact Heap.lt_size e4
    · exact Heap.lt_size e5
    · exact Heap.lt_size (N _ m1).1
    · exact Heap.lt_size (N _ m2).1
  have hCwr : H2.objs.size ∉ [z, TO, i1, i2] := fun hb => (below _ (fpLt _ (W.sub _ hb))).1 rfl
  have hDwr : s₂.heap.objs.size ∉ [z, TO, i1, i2] := fun hb => (below _ (fpLt _ (W.sub _ hb))).2 rfl
  have hnC : ∀ p ∈ news, p.1 ≠ H2.objs.size := fun p hp => (below _ (Heap.lt_size (N p hp).1)).1
  have hnD : ∀ p ∈ news, p.1 ≠ s₂.heap.objs.size := fun p hp => (below _ (Heap.lt_size (N p hp).1)).2
  have hnW : ∀ p ∈ news, p.1 ∉ [z, TO, i1, i2] := fun p hp hb => (wrOff _ hb).2.2 p hp rfl
  have loop : ∀ s₃ : Shared, s₃ = { s₂ with heap := h₁, toks := s₂.toks + ([] : List (Str × Value)).length } →
      codeAny (model prog w) A (.compLoop (.ListComp elt [⟨.Tuple [.Name x px, .Name x₂ px₂] tk tp, iter, ifs, 0⟩] scope pos) 0 (.ref z) (.ref s₂.heap.objs.size) (compEnvC scope cl H2.objs.size env))
        (RR (.ref s₂.heap.objs.size) H2.objs.size) s₃ := by
    rintro s₃ rfl
    refine loop_pairT
      (fun k s' => ∃ h' tk i ys' m', s' = { s₂ with heap := h', toks := tk } ∧ i ≤ n ∧ k = n + 1 - i ∧ ys'.length ≤ i ∧ St i h' ∧ Fr h₀ L h' m ∧ h'.Ns H2.objs.size m' ∧ News h₀ L h' ((s₂.heap.objs.size, lst ys') :: news) ∧ J i ys') ?_ (n + 1)
      ⟨h₁, _, 0, [], _, rfl, Nat.zero_le _, rfl, Nat.le_refl _, hst₁, F.keeps old, hns₁, fun p hp => ?_, hJ⟩
    · rintro k s' ⟨h', tk, i, ys', m', rfl, hi, rfl, hyl, hst', F', hn', N', j'⟩
      by_cases hlt : i < n
      · refine W.item i _ _ _ hlt hst' fun T vals h₂ tk₂ hPv hTge hT hMid hk₂ => ?_
        obtain ⟨v₁, v₂, hv1, hv2, rfl⟩ := hPv
        have N₂ : News h₀ L h₂ ((s₂.heap.objs.size, lst ys') :: news) := newsB N' hk₂ fun p hp => by
          rcases List.mem_cons.mp hp with rfl | hp
          · exact hDwr
          · exact hnW p hp
        have F₂ : Fr h₀ L h₂ m := frB F' hk₂ hLwr fun b hb => (wrOff b hb).1
        have hn₂ : h₂.Ns H2.objs.size m' := hn'.at' fun o e => hk₂ _ o hCwr e
        refine W.go _ _ _ i T _ _ _ hMid fun h₃ hst₃ hk₃ => ?_
        have hT₃ : IsTup h₃ T #[v₁, v₂] := by
          obtain ⟨o, ho, hc, q, hd⟩ := hT
          exact ⟨o, hk₃ T o (W.apart _ _ _ hMid) ho, hc, q, hd⟩
        have N₃ : News h₀ L h₃ ((s₂.heap.objs.size, lst ys') :: news) := newsB N₂ hk₃ fun p hp => by
          rcases List.mem_cons.mp hp with rfl | hp
          · exact hDwr
          · exact hnW p hp
        have F₃ : Fr h₀ L h₃ m := frB F₂ hk₃ hLwr fun b hb => (wrOff b hb).1
        have hn₃ : h₃.Ns H2.objs.size m' := hn₂.at' fun o e => hk₃ _ o hCwr e
        refine assign_Tuple_tuple hh hT₃ rfl rfl fun h₅ he => ?_
        have he' : ∀ b o, h₃.get? b = some o → h₅.get? b = some o := fun b o e => he b o (Nat.ne_of_lt (Heap.lt_size e)) e
        refine assignInOrder_cons (wpAny_assign_Name (wpAny_storeName_local (lookup_relabel_local hx) (hn₃.at' fun o e => he' _ o e) (fun h₆ hn₆ hs₆ => ?_) (by simp [compEnvC, relabel, hkind])))
        refine assignInOrder_cons (wpAny_assign_Name (wpAny_storeName_local (lookup_relabel_local hx₂) hn₆ (fun h₇ hn₇ hs₇ => ?_) (by simp [compEnvC, relabel, hkind])))
        refine assignInOrder_nil ?_
        have old7 : ∀ b o, b ≠ H2.objs.size → h₃.get? b = some o → h₇.get? b = some o := fun b o hb e => hs₇.extBut b o hb (hs₆.extBut b o hb (he' b o e))
        have hst₇ : St (i + 1) h₇ := W.frame _ _ _ hst₃ fun b hb o e => old7 b o (below b (fpLt b hb)).1 e
        obtain ⟨oz, oTI, oTO, o1, o2, e1, e2, e3, e4, e5⟩ := hObj _ _ hst₇
        obtain ⟨oC, heC, hoC⟩ := ns_obj hn₇
        have F₇ : Fr h₀ L h₇ m := ((F₃.keeps he').change hs₆ hCL hC₀).change hs₇ hCL hC₀
        have N₇ : News h₀ L h₇ ((z, oz) :: (TI, oTI) :: (TO, oTO) :: (i1, o1) :: (i2, o2) :: (H2.objs.size, oC) :: (s₂.heap.objs.size, lst ys') :: news) := fun p hp => by
          rcases List.mem_cons.mp hp with rfl | hp
          · exact ⟨e1, (off _ (.inl rfl)).2.1, (off _ (.inl rfl)).1⟩
          rcases List.mem_cons.mp hp with rfl | hp
          · exact ⟨e2, (off _ (.inr (.inl rfl))).2.1, (off _ (.inr (.inl rfl))).1⟩
          rcases List.mem_cons.mp hp with rfl | hp
          · exact ⟨e3, (off _ (.inr (.inr (.inl rfl)))).2.1, (off _ (.inr (.inr (.inl rfl)))).1⟩
          rcases List.mem_cons.mp hp with rfl | hp
          · exact ⟨e4, (off _ (.inr (.inr (.inr (.inl rfl))))).2.1, (off _ (.inr (.inr (.inr (.inl rfl))))).1⟩
          rcases List.mem_cons.mp hp with rfl | hp
          · exact ⟨e5, (off _ (.inr (.inr (.inr (.inr rfl))))).2.1, (off _ (.inr (.inr (.inr (.inr rfl))))).1⟩
          rcases List.mem_cons.mp hp with rfl | hp
          · exact ⟨heC, hCL, hC₀⟩
          · have zz := N₃ p hp
            refine ⟨old7 _ _ ?_ zz.1, zz.2⟩
            rcases List.mem_cons.mp hp with rfl | hp
            · exact hDC
            · exact hnC p hp
        have back : ∀ h₈, News h₀ L h₈ ((z, oz) :: (TI, oTI) :: (TO, oTO) :: (i1, o1) :: (i2, o2) :: (H2.objs.size, oC) :: (s₂.heap.objs.size, lst ys') :: news) → St (i + 1) h₈ := by
          intro h₈ N₈
          refine W.frame _ _ _ hst₇ fun b hb o e => ?_
          have g : ∀ q ∈ ((z, oz) :: (TI, oTI) :: (TO, oTO) :: (i1, o1) :: (i2, o2) :: (H2.objs.size, oC) :: (s₂.heap.objs.size, lst ys') :: news), q.1 = b → h₈.get? b = some o := by
            intro q hq hqb
            have a1 := (N₇ q hq).1
            rw [hqb] at a1
            rw [a1] at e
            cases e
            exact hqb ▸ (N₈ q hq).1
          simp only [List.mem_cons, List.not_mem_nil, or_false] at hb
          rcases hb with rfl | rfl | rfl | rfl | rfl | rfl | rfl
          · exact g _ (.head _) rfl
          · exact g _ (.tail _ (.head _)) rfl
          · exact g _ (.tail _ (.tail _ (.head _))) rfl
          · exact g _ (.tail _ (.tail _ (.tail _ (.head _)))) rfl
          · exact g _ (.tail _ (.tail _ (.tail _ (.tail _ (.head _))))) rfl
          · exact g _ (.tail _ (.tail _ (.tail _ (.tail _ (.tail _ (.tail _ (.tail _ m1))))))) rfl
          · exact g _ (.tail _ (.tail _ (.tail _ (.tail _ (.tail _ (.tail _ (.tail _ m2))))))) rfl
        refine wpAny_mono (turn i ys' v₁ v₂ (by simpa using hv1) (by simpa using hv2) j' hyl oz oTI oTO o1 o2 H2.objs.size oC s₂.heap.objs.size _ h₇ _ _ hoC (by simp [hxx]) (by simp) F₇ N₇) (fun ok s₄ h₄ => ?_) fun _ _ e => e
        cases ok with
        | true =>
          simp only [if_true] at h₄ ⊢
          refine wpAny_mono h₄ (fun y s₅ h₅ => ?_) fun _ _ e => e
          obtain ⟨h₈, tk₈, rfl, F₈, N₈, j₈⟩ := h₅
          have zC := (N₈ (H2.objs.size, oC) (.tail _ (.tail _ (.tail _ (.tail _ (.tail _ (.head _))))))).1
          have zD := (N₈ (s₂.heap.objs.size, lst ys') (.tail _ (.tail _ (.tail _ (.tail _ (.tail _ (.tail _ (.head _)))))))).1
          refine append_at (hsz := by show ys'.toArray.size ≤ sizeLine; rw [List.size_toArray]; exact Nat.le_trans (Nat.le_trans hyl hi) hsz) zD fun h₉ hs₉ hD₉ => ?_
          refine ⟨n + 1 - (i + 1), by omega, h₉, tk₈, i + 1, ys' ++ [y], _, rfl, hlt, rfl, by rw [List.length_append, List.length_singleton]; exact Nat.succ_le_succ hyl, W.frame _ _ _ (back _ N₈) fun b hb o e => hs₉.extBut b o (below b (fpLt b hb)).2 e, F₈.change hs₉ hDL hD₀,
            (hoC.ns zC).sameBut hs₉ (Ne.symm hDC), fun p hp => ?_, j₈⟩
          rcases List.mem_cons.mp hp with rfl | hp
          · exact ⟨hD₉.trans (congrArg some (lst_snoc ys' y)), hDL, hD₀⟩
          · have q := N₈ p (.tail _ (.tail _ (.tail _ (.tail _ (.tail _ (.tail _ (.tail _ hp)))))))
            exact ⟨hs₉.extBut _ _ (hnD p hp) q.1, q.2⟩
        | false =>
          simp only [Bool.false_eq_true, if_false] at h₄ ⊢
          obtain ⟨h₈, tk₈, rfl, F₈, N₈, j₈⟩ := h₄
          have zC := (N₈ (H2.objs.size, oC) (.tail _ (.tail _ (.tail _ (.tail _ (.tail _ (.head _))))))).1
          refine ⟨n + 1 - (i + 1), by omega, h₈, tk₈, i + 1, ys', _, rfl, hlt, rfl, Nat.le_succ_of_le hyl, back _ N₈, F₈, hoC.ns zC, fun p hp => ?_, j₈⟩
          rcases List.mem_cons.mp hp with rfl | hp
          · exact N₈ _ (.tail _ (.tail _ (.tail _ (.tail _ (.tail _ (.tail _ (.head _)))))))
          · exact N₈ p (.tail _ (.tail _ (.tail _ (.tail _ (.tail _ (.tail _ (.tail _ hp)))))))
      · obtain rfl : i = n := Nat.le_antisymm hi (Nat.not_lt.mp hlt)
        refine W.done _ _ _ hst' fun h₂ tk₂ hk₂ => ?_
        exact hRR _ _ h₂ tk₂ _ ys' j' (frB F' hk₂ hLwr fun b hb => (wrOff b hb).1) (newsB N' hk₂ fun p hp => by
          rcases List.mem_cons.mp hp with rfl | hp
          · exact hDwr
          · exact hnW p hp) hnD (hn'.at' fun o e => hk₂ _ o hCwr e) hC₀ hCL (Ne.symm hDC) hnC
    · rcases List.mem_cons.mp hp with rfl | hp
      · exact ⟨hacc, hDL, hD₀⟩
      · exact ⟨old _ _ (N p hp).1, (N p hp).2⟩
  exact codeAny_compStart_list (loop _ rfl) (W.self 0 _ _ _ hst₁ (loop _ rfl))
theorem ListComp_Z {elt iter : PySem.Expr} {ifs : List PySem.Expr} {x x₂ : Str} {px px₂ tp : Pos} {tk} {scope : Scope} {cl : List (Str × Addr)} {pos : Pos} {Q : Value → Shared → Prop} (F₀ : Fr h₀ L s.heap m)
    (hclos : closureFor scope env = pure cl) (hcell : ∀ y ∈ scope.names, y.2 ≠ .cell) (hkind : scope.kind = .function)
    (hnames : ∀ y ∈ scope.names, y.2 = .local → scope.names.lookup y.1 = some .local) (hx : scope.names.lookup x = some .local) (hx₂ : scope.names.lookup x₂ = some .local) (hxx : x ≠ x₂)
    (h : wpAny (model prog w) A (eval iter env) (SrcZ prog w A h₀ L m env elt ifs x x₂ scope cl Q) E s)
    (hs : ∀ x, foldedSetIterable iter env x = pure x := by intro _; rfl) :
    wpAny (model prog w) A (eval (.ListComp elt [⟨.Tuple [.Name x px, .Name x₂ px₂] tk tp, iter, ifs, 0⟩] scope pos) env) Q E s := by
  rw [eval_ListComp]
  refine wpAny_comprehension_free (use := none) rfl hs hclos hkind hnames (wpAny_mono h (fun xv s₁ h₁ => ?_) fun _ _ e => e)
  obtain ⟨z, TI, TO, i1, i2, l1, l2, xs, ys, news, J, ol1, ol2, n, rfl, hh, D, st, F, N, off, m1, m2, hsz, hlen, hJ, turn, fin⟩ := h₁.go
  refine wpAny_pyIter_zip st.1 ?_
  refine block_Z hh D st F N off m1 m2 hsz hlen hJ hcell hkind hx hx₂ hxx turn ?_
  intro D C h tk m' ys' j F' N' o1 hn hC₀ hCL hCD offC
  refine ⟨m', hn, fun h'' hs'' => fin D ys' h'' tk j (F'.change hs'' hCL hC₀) (fun p hp => ?_) o1⟩
  refine ⟨hs''.extBut _ _ ?_ (N' p hp).1, (N' p hp).2⟩
  rcases List.mem_cons.mp hp with rfl | hp
  · exact Ne.symm hCD
  · exact offC p hp
theorem SrcZ.call {elt : PySem.Expr} {ifs : List PySem.Expr} {x x₂ : Str} {scope : Scope} {cl : List (Str × Addr)} {Q : Value → Shared → Prop} {l1 l2 : Addr} {xs ys : List Value} {n1 n2 n : Nat} {news : List (Addr × Obj)} (J : Nat → List Value → Prop)
    (hh : A.handled = none) (F : Fr h₀ L s.heap m) (N : News h₀ L s.heap news) (m1 : (l1, listOf xs.toArray n1) ∈ news) (m2 : (l2, listOf ys.toArray n2) ∈ news) (hsz : n ≤ sizeLine) (hlen : min xs.length ys.length = n) (hJ : J 0 [])
    (turn : ∀ z TI TO i1 i2 i ys' v₁ v₂ g, xs[i]? = some v₁ → ys[i]? = some v₂ → J i ys' → ys'.length ≤ i → ∀ oz oTI oTO o1 o2 C oC D m₂ h tk (E' : Value → Shared → Prop), NsObj oC m₂ → m₂ x = some v₁ → m₂ x₂ = some v₂ → Fr h₀ L h m →
      News h₀ L h ((z, oz) :: (TI, oTI) :: (TO, oTO) :: (i1, o1) :: (i2, o2) :: (C, oC) :: (D, lst ys') :: news) →
      wpAny (model prog w) A (forIn ifs true fun c r => if r = true then do let ok ← isTrue c (compEnvC scope cl C env) (eval c (compEnvC scope cl C env)); pure (ForInStep.yield ok) else pure (ForInStep.yield r)) (fun ok s' => if ok = true then
        wpAny (model prog w) A (eval elt (compEnvC scope cl C env)) (fun y s'' => TurnEnd h₀ L m { s with heap := g, toks := tk } ((z, oz) :: (TI, oTI) :: (TO, oTO) :: (i1, o1) :: (i2, o2) :: (C, oC) :: (D, lst ys') :: news) (J (i + 1) (ys' ++ [y])) s'') E' s'
        else TurnEnd h₀ L m { s with heap := g, toks := tk } ((z, oz) :: (TI, oTI) :: (TO, oTO) :: (i1, o1) :: (i2, o2) :: (C, oC) :: (D, lst ys') :: news) (J (i + 1) ys') s') E' { s with heap := h, toks := tk })
    (fin : ∀ D ys' h tk, J n ys' → Fr h₀ L h m → News h₀ L h ((D, lst ys') :: news) → (∀ p ∈ news, p.1 ≠ D) → Q (.ref D) { s with heap := h, toks := tk }) :
    wpAny (model prog w) A (call (.type "zip") [.ref l1, .ref l2]) (SrcZ prog w A h₀ L m env elt ifs x x₂ scope cl Q) E s := by
  have a1 := (N _ m1).1
  have a2 := (N _ m2).1
  have hl1 : s.heap.IsList l1 xs.toArray := ⟨_, a1, rfl, n1, rfl⟩
  have hl2 : s.heap.IsList l2 ys.toArray := ⟨_, a2, rfl, n2, rfl⟩
  refine call_zip_2 hl1 hl2 fun h' hz hTI hTO hi1 hi2 hsz' hk => ?_
  have fr : ∀ b, s.heap.objs.size ≤ b → h₀.get? b = none ∧ b ≠ L ∧ ∀ p ∈ news, p.1 ≠ b := fun b hb => ⟨by
    cases e : h₀.get? b with
    | none => rfl
    | some o' => exact absurd (Heap.lt_size (F.keep b o' e)) (Nat.not_lt.mpr hb), fun e => absurd (e ▸ F.ns.lt) (Nat.not_lt.mpr hb), fun p hp e => absurd (e ▸ Heap.lt_size (N p hp).1) (Nat.not_lt.mpr hb)⟩
  refine ⟨⟨_, _, _, _, _, l1, l2, xs, ys, news, J, _, _, n, rfl, hh, zipApart_new (Heap.lt_size a1) (Heap.lt_size a2), ⟨hz, hTI, ⟨_, _, hTO⟩, hi1, hi2, Heap.IsList.at hl1 (fun o e => hk _ o e), Heap.IsList.at hl2 (fun o e => hk _ o e)⟩, F.keeps hk, N.grown hk, ?_, m1, m2, hsz, hlen, hJ, ?_, ?_⟩⟩
  · rintro b (rfl | rfl | rfl | rfl | rfl)
    · exact fr _ (Nat.le_add_right _ _)
    · exact fr _ (Nat.le_add_right _ _)
    · exact fr _ (Nat.le_add_right _ _)
    · exact fr _ (Nat.le_refl _)
    · exact fr _ (Nat.le_add_right _ _)
  · intro i ys' v₁ v₂ e1 e2 j hyl oz oTI oTO o1 o2 C oC D m₂ h tk E' a b c F' N'
    exact turn _ _ _ _ _ i ys' v₁ v₂ _ e1 e2 j hyl oz oTI oTO o1 o2 C oC D m₂ h tk E' a b c F' N'
  · intro D ys' h tk j F' N' o
    exact fin D ys' h tk j F' N' o
end
end Mine
end
section
open PySem PySem.W PyProof.Rows PyProof.V PySem.Calls PyProof.Rows.LCg
set_option Elab.async false
set_option maxRecDepth 100000
set_option maxHeartbeats 2000000
namespace Mine
section
variable {prog : Program} {w : World} {A : Around} {E : Value → Shared → Prop} {s : Shared} {h₀ : Heap} {L : Addr} {m : Str → Option Value} {env : Env}
set_option linter.unusedVariables false in
theorem block_W {elt iter : PySem.Expr} {ifs : List PySem.Expr} {x x₂ : Str} {px px₂ tp : Pos} {tk} {scope : Scope} {cl : List (Str × Addr)} {pos : Pos} {s₂ : Shared} {z TI TO i1 i2 : Addr} {news : List (Addr × Obj)} {J : Nat → List Value → Prop} {n : Nat}
    {RR : Value → Addr → Result → Shared → Prop} {ls : List Addr} {X Y : Nat → Value → Prop} {St : Nat → Heap → Prop} {Mid : Nat → Addr → Heap → Prop} (hh : A.handled = none)
    (W : WalksT prog w A z ([z, TI, TO, i1, i2] ++ ls) [z, TO, i1, i2] n (fun i vals => ∃ x y, X i x ∧ Y i y ∧ vals = #[x, y]) St Mid) (st0 : St 0 s₂.heap)
    (hObj : ∀ i h, St i h → ∃ oz oTI oTO o1 o2, h.get? z = some oz ∧ h.get? TI = some oTI ∧ h.get? TO = some oTO ∧ h.get? i1 = some o1 ∧ h.get? i2 = some o2) (hTIwr : TI ∉ [z, TO, i1, i2]) (hls : ∀ b ∈ ls, ∃ o, (b, o) ∈ news)
    (F : Fr h₀ L s₂.heap m) (N : News h₀ L s₂.heap news) (off : ∀ b, b = z ∨ b = TI ∨ b = TO ∨ b = i1 ∨ b = i2 → h₀.get? b = none ∧ b ≠ L ∧ ∀ p ∈ news, p.1 ≠ b)
    (hsz : n ≤ sizeLine) (hJ : J 0 [])
    (hcell : ∀ y ∈ scope.names, y.2 ≠ .cell) (hkind : scope.kind = .function) (hx : scope.names.lookup x = some .local) (hx₂ : scope.names.lookup x₂ = some .local) (hxx : x ≠ x₂)
    (turn : ∀ i ys' v₁ v₂, X i v₁ → Y i v₂ → J i ys' → ys'.length ≤ i → ∀ oz oTI oTO o1 o2 C oC D m₂ h tk (E' : Value → Shared → Prop), NsObj oC m₂ → m₂ x = some v₁ → m₂ x₂ = some v₂ → Fr h₀ L h m →
      News h₀ L h ((z, oz) :: (TI, oTI) :: (TO, oTO) :: (i1, o1) :: (i2, o2) :: (C, oC) :: (D, lst ys') :: news) →
      wpAny (model prog w) A (forIn ifs true fun c r => if r = true then do let ok ← isTrue c (compEnvC scope cl C env) (eval c (compEnvC scope cl C env)); pure (ForInStep.yield ok) else pure (ForInStep.yield r)) (fun ok s' => if ok = true then
        wpAny (model prog w) A (eval elt (compEnvC scope cl C env)) (fun y s'' => TurnEnd h₀ L m { s₂ with heap := h, toks := tk } ((z, oz) :: (TI, oTI) :: (TO, oTO) :: (i1, o1) :: (i2, o2) :: (C, oC) :: (D, lst ys') :: news) (J (i + 1) (ys' ++ [y])) s'') E' s'
        else TurnEnd h₀ L m { s₂ with heap := h, toks := tk } ((z, oz) :: (TI, oTI) :: (TO, oTO) :: (i1, o1) :: (i2, o2) :: (C, oC) :: (D, lst ys') :: news) (J (i + 1) ys') s') E' { s₂ with heap := h, toks := tk })
    (hRR : ∀ D C h tk m' ys', J n ys' → Fr h₀ L h m → News h₀ L h ((D, lst ys') :: news) → (∀ p ∈ news, p.1 ≠ D) → h.Ns C m' → h₀.get? C = none → C ≠ L → C ≠ D → (∀ p ∈ news, p.1 ≠ C) → RR (.ref D) C (.ok .next) { s₂ with heap := h, toks := tk }) :
    wpAny (model prog w) A (newList []) (fun acc s₃ => wpAny (model prog w) A (newFunctionEnv scope env.globals cl [] env.qual none .none (some env)) (fun cenv s₄ =>
      codeAny (model prog w) A (.compStart (.ListComp elt [⟨.Tuple [.Name x px, .Name x₂ px₂] tk tp, iter, ifs, 0⟩] scope pos) 0 (.ref z) acc { cenv with scope := relabel scope env }) (RR acc cenv.locals) s₄) E s₃) E s₂ := by
  have wrOff : ∀ b ∈ [z, TO, i1, i2], h₀.get? b = none ∧ b ≠ L ∧ ∀ p ∈ news, p.1 ≠ b := by
    intro b hb
    simp only [List.mem_cons, List.not_mem_nil, or_false] at hb
    rcases hb with rfl | rfl | rfl | rfl
    · exact off _ (.inl rfl)
    · exact off _ (.inr (.inr (.inl rfl)))
    · exact off _ (.inr (.inr (.inr (.inl rfl))))
    · exact off _ (.inr (.inr (.inr (.inr rfl))))
  have hLwr : L ∉ [z, TO, i1, i2] := fun hb => (wrOff L hb).2.1 rfl
  refine wpAny_newObj_type (wpAny_newFunctionEnv hcell (by intro y hy; simp at hy) (fun h₁ hns₁ hsb₁ => ?_) hkind)
  dsimp only at hns₁ hsb₁ ⊢
  generalize hH2 : s₂.heap.push { cls := .type "list", dict := none, data := .seq ([] : List Value).toArray } = H2 at hns₁ hsb₁ ⊢
  have hC : H2.objs.size = s₂.heap.objs.size + 1 := by rw [← hH2, Heap.size_push]
  have hDC : s₂.heap.objs.size ≠ H2.objs.size := by rw [hC]; exact Nat.ne_of_lt (Nat.lt_succ_self _)
  have below : ∀ b, b < s₂.heap.objs.size → b ≠ H2.objs.size ∧ b ≠ s₂.heap.objs.size := fun b hb => ⟨by rw [hC]; exact Nat.ne_of_lt (Nat.lt_succ_of_lt hb), Nat.ne_of_lt hb⟩
  have old : ∀ b o, s₂.heap.get? b = some o → h₁.get? b = some o := fun b o e => hsb₁.extBut b o (below b (Heap.lt_size e)).1 (Heap.get?_push_of_some _ (hH2 ▸ Heap.get?_push_of_some _ e))
  have hacc : h₁.get? s₂.heap.objs.size = some (lst []) := hsb₁.extBut _ _ hDC (Heap.get?_push_of_some _ (hH2 ▸ Heap.get?_push_size _ rfl))
  have hst₁ : St 0 h₁ := W.frame _ _ _ st0 fun b _ o e => old b o e
  have fresh : ∀ a, s₂.heap.objs.size ≤ a → s₂.heap.get? a = none := fun a ha => by
    cases e : s₂.heap.get? a with
    | none => rfl
    | some o' => exact absurd (Heap.lt_size e) (Nat.not_lt.mpr ha)
  have fresh₀ : ∀ a, s₂.heap.objs.size ≤ a → h₀.get? a = none := fun a ha => by
    cases e : h₀.get? a with
    | none => rfl
    | some o' => have := F.keep a o' e; rw [fresh a ha] at this; cases this
  have hD₀ : h₀.get? s₂.heap.objs.size = none := fresh₀ _ (Nat.le_refl _)
  have hC₀ : h₀.get? H2.objs.size = none := fresh₀ _ (by rw [hC]; exact Nat.le_succ _)
  have hLlt : L < s₂.heap.objs.size := F.ns.lt
  have hDL : s₂.heap.objs.size ≠ L := Ne.symm (below L hLlt).2
  have hCL : H2.objs.size ≠ L := Ne.symm (below L hLlt).1
  have fpLt : ∀ b ∈ [z, TI, TO, i1, i2] ++ ls, b < s₂.heap.objs.size := by
    intro b hb
    obtain ⟨oz, oTI, oTO, o1, o2, e1, e2, e3, e4, e5⟩ := hObj _ _ st0
    rcases List.mem_append.mp hb with hb | hb
    · simp only [List.mem_cons, List.not_mem_nil, or_false] at hb
      rcases hb with rfl | rfl | rfl | rfl | rfl
      · exact Heap.lt_size e1
      · exact Heap.lt_size e2
      · exact Heap.lt_size e3
      · exact Heap.lt_size e4
      · exact Heap.lt_size e5
    · obtain ⟨o, ho⟩ := hls b hb
      exact Heap.lt_size (N _ ho).1
  have hCwr : H2.objs.size ∉ [z, TO, i1, i2] := fun hb => (below _ (fpLt _ (W.sub _ hb))).1 rfl
  have hDwr : s₂.heap.objs.size ∉ [z, TO, i1, i2] := fun hb => (below _ (fpLt _ (W.sub _ hb))).2 rfl
  have hnC : ∀ p ∈ news, p.1 ≠ H2.objs.size := fun p hp => (below _ (Heap.lt_size (N p hp).1)).1
  have hnD : ∀ p ∈ news, p.1 ≠ s₂.heap.objs.size := fun p hp => (below _ (Heap.lt_size (N p hp).1)).2
  have hnW : ∀ p ∈ news, p.1 ∉ [z, TO, i1, i2] := fun p hp hb => (wrOff _ hb).2.2 p hp rfl
  have loop : ∀ s₃ : Shared, s₃ = { s₂ with heap := h₁, toks := s₂.toks + ([] : List (Str × Value)).length } →
      codeAny (model prog w) A (.compLoop (.ListComp elt [⟨.Tuple [.Name x px, .Name x₂ px₂] tk tp, iter, ifs, 0⟩] scope pos) 0 (.ref z) (.ref s₂.heap.objs.size) (compEnvC scope cl H2.objs.size env))
        (RR (.ref s₂.heap.objs.size) H2.objs.size) s₃ := by
    rintro s₃ rfl
    refine loop_pairT
      (fun k s' => ∃ h' tk i ys' m', s' = { s₂ with heap := h', toks := tk } ∧ i ≤ n ∧ k = n + 1 - i ∧ ys'.length ≤ i ∧ St i h' ∧ Fr h₀ L h' m ∧ h'.Ns H2.objs.size m' ∧ News h₀ L h' ((s₂.heap.objs.size, lst ys') :: news) ∧ J i ys') ?_ (n + 1)
      ⟨h₁, _, 0, [], _, rfl, Nat.zero_le _, rfl, Nat.le_refl _, hst₁, F.keeps old, hns₁, fun p hp => ?_, hJ⟩
    · rintro k s' ⟨h', tk, i, ys', m', rfl, hi, rfl, hyl, hst', F', hn', N', j'⟩
      by_cases hlt : i < n
      · refine W.item i _ _ _ hlt hst' fun T vals h₂ tk₂ hPv hTge hT hMid hk₂ => ?_
        obtain ⟨v₁, v₂, hv1, hv2, rfl⟩ := hPv
        have N₂ : News h₀ L h₂ ((s₂.heap.objs.size, lst ys') :: news) := newsB N' hk₂ fun p hp => by
          rcases List.mem_cons.mp hp with rfl | hp
          · exact hDwr
          · exact hnW p hp
        have F₂ : Fr h₀ L h₂ m := frB F' hk₂ hLwr fun b hb => (wrOff b hb).1
        have hn₂ : h₂.Ns H2.objs.size m' := hn'.at' fun o e => hk₂ _ o hCwr e
        refine W.go _ _ _ i T _ _ _ hMid fun h₃ hst₃ hk₃ => ?_
        have hT₃ : IsTup h₃ T #[v₁, v₂] := by
          obtain ⟨o, ho, hc, q, hd⟩ := hT
          exact ⟨o, hk₃ T o (W.apart _ _ _ hMid) ho, hc, q, hd⟩
        have N₃ : News h₀ L h₃ ((s₂.heap.objs.size, lst ys') :: news) := newsB N₂ hk₃ fun p hp => by
          rcases List.mem_cons.mp hp with rfl | hp
          · exact hDwr
          · exact hnW p hp
        have F₃ : Fr h₀ L h₃ m := frB F₂ hk₃ hLwr fun b hb => (wrOff b hb).1
        have hn₃ : h₃.Ns H2.objs.size m' := hn₂.at' fun o e => hk₃ _ o hCwr e
        refine assign_Tuple_tuple hh hT₃ rfl rfl fun h₅ he => ?_
        have he' : ∀ b o, h₃.get? b = some o → h₅.get? b = some o := fun b o e => he b o (Nat.ne_of_lt (Heap.lt_size e)) e
        refine assignInOrder_cons (wpAny_assign_Name (wpAny_storeName_local (lookup_relabel_local hx) (hn₃.at' fun o e => he' _ o e) (fun h₆ hn₆ hs₆ => ?_) (by simp [compEnvC, relabel, hkind])))
        refine assignInOrder_cons (wpAny_assign_Name (wpAny_storeName_local (lookup_relabel_local hx₂) hn₆ (fun h₇ hn₇ hs₇ => ?_) (by simp [compEnvC, relabel, hkind])))
        refine assignInOrder_nil ?_
        have old7 : ∀ b o, b ≠ H2.objs.size → h₃.get? b = some o → h₇.get? b = some o := fun b o hb e => hs₇.extBut b o hb (hs₆.extBut b o hb (he' b o e))
        have hst₇ : St (i + 1) h₇ := W.frame _ _ _ hst₃ fun b hb o e => old7 b o (below b (fpLt b hb)).1 e
        obtain ⟨oz, oTI, oTO, o1, o2, e1, e2, e3, e4, e5⟩ := hObj _ _ hst₇
        obtain ⟨oC, heC, hoC⟩ := ns_obj hn₇
        have F₇ : Fr h₀ L h₇ m := ((F₃.keeps he').change hs₆ hCL hC₀).change hs₇ hCL hC₀
        have N₇ : News h₀ L h₇ ((z, oz) :: (TI, oTI) :: (TO, oTO) :: (i1, o1) :: (i2, o2) :: (H2.objs.size, oC) :: (s₂.heap.objs.size, lst ys') :: news) := fun p hp => by
          rcases List.mem_cons.mp hp with rfl | hp
          · exact ⟨e1, (off _ (.inl rfl)).2.1, (off _ (.inl rfl)).1⟩
          rcases List.mem_cons.mp hp with rfl | hp
          · exact ⟨e2, (off _ (.inr (.inl rfl))).2.1, (off _ (.inr (.inl rfl))).1⟩
          rcases List.mem_cons.mp hp with rfl | hp
          · exact ⟨e3, (off _ (.inr (.inr (.inl rfl)))).2.1, (off _ (.inr (.inr (.inl rfl)))).1⟩
          rcases List.mem_cons.mp hp with rfl | hp
          · exact ⟨e4, (off _ (.inr (.inr (.inr (.inl rfl))))).2.1, (off _ (.inr (.inr (.inr (.inl rfl))))).1⟩
          rcases List.mem_cons.mp hp with rfl | hp
          · exact ⟨e5, (off _ (.inr (.inr (.inr (.inr rfl))))).2.1, (off _ (.inr (.inr (.inr (.inr rfl))))).1⟩
          rcases List.mem_cons.mp hp with rfl | hp
          · exact ⟨heC, hCL, hC₀⟩
          · have zz := N₃ p hp
            refine ⟨old7 _ _ ?_ zz.1, zz.2⟩
            rcases List.mem_cons.mp hp with rfl | hp
            · exact hDC
            · exact hnC p hp
        have back : ∀ h₈, News h₀ L h₈ ((z, oz) :: (TI, oTI) :: (TO, oTO) :: (i1, o1) :: (i2, o2) :: (H2.objs.size, oC) :: (s₂.heap.objs.size, lst ys') :: news) → St (i + 1) h₈ := by
          intro h₈ N₈
          refine W.frame _ _ _ hst₇ fun b hb o e => ?_
          have g : ∀ q ∈ ((z, oz) :: (TI, oTI) :: (TO, oTO) :: (i1, o1) :: (i2, o2) :: (H2.objs.size, oC) :: (s₂.heap.objs.size, lst ys') :: news), q.1 = b → h₈.get? b = some o := by
            intro q hq hqb
            have a1 := (N₇ q hq).1
            rw [hqb] at a1
            rw [a1] at e
            cases e
            exact hqb ▸ (N₈ q hq).1
          rcases List.mem_append.mp hb with hb | hb
          · simp only [List.mem_cons, List.not_mem_nil, or_false] at hb
            rcases hb with rfl | rfl | rfl | rfl | rfl
            · exact g _ (.head _) rfl
            · exact g _ (.tail _ (.head _)) rfl
            · exact g _ (.tail _ (.tail _ (.head _))) rfl
            · exact g _ (.tail _ (.tail _ (.tail _ (.head _)))) rfl
            · exact g _ (.tail _ (.tail _ (.tail _ (.tail _ (.head _))))) rfl
          · obtain ⟨o', ho'⟩ := hls b hb
            exact g _ (.tail _ (.tail _ (.tail _ (.tail _ (.tail _ (.tail _ (.tail _ ho'))))))) rfl
        refine wpAny_mono (turn i ys' v₁ v₂ hv1 hv2 j' hyl oz oTI oTO o1 o2 H2.objs.size oC s₂.heap.objs.size _ h₇ _ _ hoC (by simp [hxx]) (by simp) F₇ N₇) (fun ok s₄ h₄ => ?_) fun _ _ e => e
        cases ok with
        | true =>
          simp only [if_true] at h₄ ⊢
          refine wpAny_mono h₄ (fun y s₅ h₅ => ?_) fun _ _ e => e
          obtain ⟨h₈, tk₈, rfl, F₈, N₈, j₈⟩ := h₅
          have zC := (N₈ (H2.objs.size, oC) (.tail _ (.tail _ (.tail _ (.tail _ (.tail _ (.head _))))))).1
          have zD := (N₈ (s₂.heap.objs.size, lst ys') (.tail _ (.tail _ (.tail _ (.tail _ (.tail _ (.tail _ (.head _)))))))).1
          refine append_at (hsz := by show ys'.toArray.size ≤ sizeLine; rw [List.size_toArray]; exact Nat.le_trans (Nat.le_trans hyl hi) hsz) zD fun h₉ hs₉ hD₉ => ?_
          refine ⟨n + 1 - (i + 1), by omega, h₉, tk₈, i + 1, ys' ++ [y], _, rfl, hlt, rfl, by rw [List.length_append, List.length_singleton]; exact Nat.succ_le_succ hyl, W.frame _ _ _ (back _ N₈) fun b hb o e => hs₉.extBut b o (below b (fpLt b hb)).2 e, F₈.change hs₉ hDL hD₀,
            (hoC.ns zC).sameBut hs₉ (Ne.symm hDC), fun p hp => ?_, j₈⟩
          rcases List.mem_cons.mp hp with rfl | hp
          · exact ⟨hD₉.trans (congrArg some (lst_snoc ys' y)), hDL, hD₀⟩
          · have q := N₈ p (.tail _ (.tail _ (.tail _ (.tail _ (.tail _ (.tail _ (.tail _ hp)))))))
            exact ⟨hs₉.extBut _ _ (hnD p hp) q.1, q.2⟩
        | false =>
          simp only [Bool.false_eq_true, if_false] at h₄ ⊢
          obtain ⟨h₈, tk₈, rfl, F₈, N₈, j₈⟩ := h₄
          have zC := (N₈ (H2.objs.size, oC) (.tail _ (.tail _ (.tail _ (.tail _ (.tail _ (.head _))))))).1
          refine ⟨n + 1 - (i + 1), by omega, h₈, tk₈, i + 1, ys', _, rfl, hlt, rfl, Nat.le_succ_of_le hyl, back _ N₈, F₈, hoC.ns zC, fun p hp => ?_, j₈⟩
          rcases List.mem_cons.mp hp with rfl | hp
          · exact N₈ _ (.tail _ (.tail _ (.tail _ (.tail _ (.tail _ (.tail _ (.head _)))))))
          · exact N₈ p (.tail _ (.tail _ (.tail _ (.tail _ (.tail _ (.tail _ (.tail _ hp)))))))
      · obtain rfl : i = n := Nat.le_antisymm hi (Nat.not_lt.mp hlt)
        refine W.done _ _ _ hst' fun h₂ tk₂ hk₂ => ?_
        exact hRR _ _ h₂ tk₂ _ ys' j' (frB F' hk₂ hLwr fun b hb => (wrOff b hb).1) (newsB N' hk₂ fun p hp => by
          rcases List.mem_cons.mp hp with rfl | hp
          · exact hDwr
          · exact hnW p hp) hnD (hn'.at' fun o e => hk₂ _ o hCwr e) hC₀ hCL (Ne.symm hDC) hnC
    · rcases List.mem_cons.mp hp with rfl | hp
      · exact ⟨hacc, hDL, hD₀⟩
      · exact ⟨old _ _ (N p hp).1, (N p hp).2⟩
  exact codeAny_compStart_list (loop _ rfl) (W.self 0 _ _ _ hst₁ (loop _ rfl))
end
end Mine
end
section
open PySem PySem.W PyProof.Rows PyProof.V PySem.Calls PyProof.Rows.LCg
set_option Elab.async false
set_option maxRecDepth 100000
namespace Mine
section
variable {prog : Program} {w : World} {A : Around} {E : Value → Shared → Prop} {s : Shared}
theorem nextS_item {it : Addr} {x : Str} {t : Tok} {i c : Nat} {Q : Value → Shared → Prop} (hit : s.heap.IsStrIter it "str_ascii_iterator" x t i) (hx : x.cps[i]? = some c)
    (hQ : ∀ h' tk, h'.IsStrIter it "str_ascii_iterator" x t (i + 1) → Heap.SameBut it s.heap h' → Q (.str ⟨#[c]⟩ s.toks) { s with heap := h', toks := tk }) :
    wpAny (model prog w) A (Builtin.SmallTypes.nextOf (.ref it)) Q E s := by
  obtain ⟨o, ho, hc, hd⟩ := id hit
  unfold Builtin.SmallTypes.nextOf
  refine wpAny_bind (wpAny_callSpecial?_slot (name := Str.ofString "__next__") hit.typeIs PySem.F.slot_str_ascii_iterator_next
    (wpAny_call_entry PySem.F.slot_str_ascii_iterator_next hit.typeIs PySem.F.entry_str_ascii_iterator_next ?_ (PySem.F.args_str_ascii_iterator_next_1 _)))
  show wpAny _ _ (field (.ref it) 0 >>= _) _ _ s
  refine wpAny_bind (wpAny_field ho hd (x := .str x t) rfl ?_)
  show wpAny _ _ (field (.ref it) 1 >>= _) _ _ s
  refine wpAny_bind (wpAny_field ho hd (x := .int i 0) rfl ?_)
  simp only [Int.toNat_natCast, hx]
  refine wpAny_bind (wpAny_setField ho hd (by simp) (wpAny_bind (wpAny_mkStr (wpAny_pure ⟨_, rfl, wpAny_pure (hQ _ _ ?_ (Heap.SameBut.update ..))⟩) (by show 1 ≤ sizeLine; decide))))
  exact ⟨_, Heap.get?_update_self _ ho (Obj.isFreed_of_fields (Obj.data_mapFields hd _)), (Obj.cls_mapFields ..).trans hc, by
    rw [Obj.data_mapFields hd]; simp [rawInt]⟩
theorem nextS_end {it : Addr} {x : Str} {t : Tok} {i : Nat} {Q : Value → Shared → Prop} (hh : A.handled = none) (hit : s.heap.IsStrIter it "str_ascii_iterator" x t i) (hx : x.cps[i]? = none)
    (hE : ∀ h' e, Heap.ExtBut it s.heap h' → (∃ o, h'.get? e = some o ∧ o.cls = .type "StopIteration") → E (.ref e) { s with heap := h' }) :
    wpAny (model prog w) A (Builtin.SmallTypes.nextOf (.ref it)) Q E s := by
  obtain ⟨o, ho, hc, hd⟩ := id hit
  unfold Builtin.SmallTypes.nextOf
  refine wpAny_bind (wpAny_callSpecial?_slot (name := Str.ofString "__next__") hit.typeIs PySem.F.slot_str_ascii_iterator_next
    (wpAny_call_entry PySem.F.slot_str_ascii_iterator_next hit.typeIs PySem.F.entry_str_ascii_iterator_next ?_ (PySem.F.args_str_ascii_iterator_next_1 _)))
  show wpAny _ _ (field (.ref it) 0 >>= _) _ _ s
  refine wpAny_bind (wpAny_field ho hd (x := .str x t) rfl ?_)
  show wpAny _ _ (field (.ref it) 1 >>= _) _ _ s
  refine wpAny_bind (wpAny_field ho hd (x := .int i 0) rfl ?_)
  simp only [Int.toNat_natCast, hx]
  refine wpAny_bind (wpAny_rule (wpAny_bind (wpAny_setField ho hd (by simp) (wpAny_bind (wpAny_letGo ?_)))))
  show wpAny _ _ (newExc (.type "StopIteration") [] >>= _) _ _ _
  refine wpAny_bind ?_
  simp only [newExc, newTuple]
  refine wpAny_bind (wpAny_newObj_type ?_ (by size_fits))
  refine wpAny_bind (m := firstArgMember _ _) (wpAny_of_eq (a := Value.none) (by first | rfl | (simp only [firstArgMember]; rfl)) ?_)
  refine wpAny_newObj_type ?_ (by size_fits)
  simp only [raiseNew]
  refine wpAny_bind (wpAny_handled ?_)
  first | rw [show A.in1.handled = none from hh] | rw [hh]
  refine wpAny_bind (wpAny_pure (wpAny_throw ?_))
  exact hE _ _ (((Heap.SameBut.update ..).extBut.push _).push _) ⟨_, Heap.get?_push_size _ rfl, rfl⟩
end
/-- an iterator: what it hands out, and where it stands -/
structure ItAt (prog : Program) (w : World) (i : Addr) (fp : List Addr) (n : Nat) (P : Nat → Value → Prop) (S : Nat → Heap → Prop) : Prop where
  own : i ∈ fp
  has : ∀ k h, S k h → ∃ o, h.get? i = some o
  keep : ∀ k h h', S k h → (∀ b ∈ fp, ∀ o, h.get? b = some o → h'.get? b = some o) → S k h'
  item : ∀ (A : Around) k (s : Shared) (Q : Value → Shared → Prop) (E : Value → Shared → Prop), k < n → S k s.heap → (∀ v h' tk, P k v → S (k + 1) h' → Heap.SameBut i s.heap h' → Q v { s with heap := h', toks := tk }) → wpAny (model prog w) A (Builtin.SmallTypes.nextOf (.ref i)) Q E s
  fin : ∀ (A : Around) (s : Shared) (Q : Value → Shared → Prop) (E : Value → Shared → Prop), A.handled = none → S n s.heap → (∀ h' e, Heap.ExtBut i s.heap h' → (∃ o, h'.get? e = some o ∧ o.cls = .type "StopIteration") → E (.ref e) { s with heap := h' }) → wpAny (model prog w) A (Builtin.SmallTypes.nextOf (.ref i)) Q E s
theorem ItAt.but {prog : Program} {w : World} {i : Addr} {fp : List Addr} {n : Nat} {P : Nat → Value → Prop} {S : Nat → Heap → Prop} (I : ItAt prog w i fp n P S) {k : Nat} {c : Addr} {h h' : Heap} (st : S k h) (hs : Heap.ExtBut c h h') (hc : c ∉ fp) : S k h' :=
  I.keep k h h' st fun b hb o e => hs b o (fun q => hc (q ▸ hb)) e
theorem ItAt.str {prog : Program} {w : World} (i : Addr) (x : Str) (t : Tok) : ItAt prog w i [i] x.cps.size (SignAt x) (fun k h => h.IsStrIter i "str_ascii_iterator" x t k) where
  own := .head _
  has := fun k h st => by obtain ⟨o, e, _⟩ := st; exact ⟨o, e⟩
  keep := fun k h h' st hk => by obtain ⟨o, e, r⟩ := st; exact ⟨o, hk i (.head _) o e, r⟩
  item := fun A k s Q E hk st hQ => nextS_item st (c := x.cps[k]) (by simp [hk]) fun h' tk st' hs => hQ _ h' tk ⟨_, _, by simp [hk], rfl⟩ st' hs
  fin := fun A s Q E hh st hE => nextS_end hh st (by simp) hE
theorem ItAt.list {prog : Program} {w : World} (i l : Addr) (xs : Array Value) (hne : l ≠ i) : ItAt prog w i [i, l] xs.size (fun k v => xs[k]? = some v) (fun k h => h.IsListIter i l k ∧ h.IsList l xs) where
  own := .head _
  has := fun k h st => by obtain ⟨⟨o, e, _⟩, _⟩ := st; exact ⟨o, e⟩
  keep := fun k h h' st hk => ⟨by obtain ⟨⟨o, e, r⟩, _⟩ := st; exact ⟨o, hk i (.head _) o e, r⟩, by obtain ⟨_, ⟨o, e, r⟩⟩ := st; exact ⟨o, hk l (.tail _ (.head _)) o e, r⟩⟩
  item := fun A k s Q E hk st hQ => wpAny_nextOf_list_item st.1 st.2 (x := xs[k]) (by simp [hk]) fun h' st' hs => hQ _ h' s.toks (by simp [hk]) ⟨st', st.2.extBut hs.extBut hne⟩ hs
  fin := fun A s Q E hh st hE => wpAny_nextOf_list_end hh st.1 st.2 (by simp) hE
end Mine
end
section
open PySem PySem.W PyProof.Rows PyProof.V PySem.Calls PyProof.Rows.LCg
set_option Elab.async false
set_option maxRecDepth 100000
namespace Mine
structure ZA (z TI TO i1 i2 : Addr) (f1 f2 : List Addr) : Prop where
  TIz : TI ≠ z
  TOz : TO ≠ z
  TITO : TI ≠ TO
  TIi1 : TI ≠ i1
  TIi2 : TI ≠ i2
  i1z : i1 ≠ z
  i2z : i2 ≠ z
  i1TO : i1 ≠ TO
  i2TO : i2 ≠ TO
  i12 : i1 ≠ i2
  z1 : z ∉ f1
  z2 : z ∉ f2
  t1 : TO ∉ f1
  t2 : TO ∉ f2
  o1 : i2 ∉ f1
  o2 : i1 ∉ f2
section
variable {prog : Program} {w : World} {A : Around} {E : Value → Shared → Prop} {s : Shared} {z TI TO i1 i2 : Addr} {f1 f2 : List Addr} {n1 n2 : Nat} {P1 P2 : Nat → Value → Prop} {S1 S2 : Nat → Heap → Prop}
theorem zipG_item {k1 k2 : Nat} {a b : Value} {Q : Value → Shared → Prop} (I1 : ItAt prog w i1 f1 n1 P1 S1) (I2 : ItAt prog w i2 f2 n2 P2 S2) (D : ZA z TI TO i1 i2 f1 f2)
    (hz : IsZip s.heap z TI TO .none) (hTI : IsPair s.heap TI (.ref i1) (.ref i2)) (hTO : IsPair s.heap TO a b) (h1 : S1 k1 s.heap) (h2 : S2 k2 s.heap) (l1 : k1 < n1) (l2 : k2 < n2)
    (hQ : ∀ h' tk x y, P1 k1 x → P2 k2 y → IsZip h' z TI TO (rawInt s.heap.objs.size) → IsPair h' TO x y → S1 (k1 + 1) h' → S2 (k2 + 1) h' → IsPair h' s.heap.objs.size x y →
      (∀ c o, c ≠ z → c ≠ TO → c ≠ i1 → c ≠ i2 → s.heap.get? c = some o → h'.get? c = some o) → Q (.ref s.heap.objs.size) { s with heap := h', toks := tk }) :
    wpAny (model prog w) A (Builtin.«zip.__next__» ⟨[.ref z], []⟩) (fun fin s' => ∃ v, fin = .done (.ret v) ∧ Q v s') E s := by
  show wpAny _ _ (field (.ref z) 2 >>= _) _ _ _
  refine wpAny_bind (wpAny_field hz rfl (x := .bool false) rfl ?_)
  show wpAny _ _ (field (.ref z) 3 >>= _) _ _ _
  refine wpAny_bind (wpAny_field hz rfl (x := .ref TI) rfl ?_)
  refine wpAny_bind (wpAny_seqItems hTI rfl ?_)
  show wpAny _ _ (Builtin.SmallTypes.ownedTupleIsFree (.ref z) >>= _) _ _ _
  refine wpAny_bind ?_
  unfold Builtin.SmallTypes.ownedTupleIsFree
  refine wpAny_bind (wpAny_field hz rfl (x := .none) rfl (wpAny_pure ?_))
  simp only [if_true]
  refine wpAny_bind (wpAny_rule ?_)
  refine wpAny_bind (wpAny_field hz rfl (x := .ref TO) rfl ?_)
  refine wpAny_bind (wpAny_setField_rec hz (by simp) fun h₁ hz₁ hs₁ => ?_)
  replace hz₁ : IsZip h₁ z TI TO .ellipsis := hz₁
  refine wpAny_bind ?_
  simp only [List.zipIdx_cons, List.zipIdx_nil, List.forIn_cons, List.forIn_nil]
  refine wpAny_bind (wpAny_bind (wpAny_onRaise ?_))
  show wpAny _ _ (Builtin.SmallTypes.nextOf (.ref i1) >>= _) _ _ _
  refine wpAny_bind (I1.item _ k1 _ _ _ l1 (I1.but h1 hs₁.extBut D.z1) fun x h₂ tk₂ hx h1₂ hs₂ => wpAny_pure ?_)
  have hTO₂ : IsPair h₂ TO a b := hs₂.extBut _ _ D.i1TO.symm (hs₁.extBut _ _ D.TOz hTO)
  refine wpAny_bind (wpAny_seqItems hTO₂ rfl ?_)
  refine wpAny_bind (wpAny_updateSeq_pair hTO₂ fun h₃ hTO₃ hs₃ => ?_)
  replace hTO₃ : IsPair h₃ TO x b := hTO₃
  refine wpAny_bind (wpAny_letGo (wpAny_pure ?_))
  refine wpAny_bind (wpAny_bind (wpAny_onRaise ?_))
  show wpAny _ _ (Builtin.SmallTypes.nextOf (.ref i2) >>= _) _ _ _
  refine wpAny_bind (I2.item _ k2 _ _ _ l2 (I2.but (I2.but (I2.but h2 hs₁.extBut D.z2) hs₂.extBut D.o2) hs₃.extBut D.t2) fun y h₄ tk₄ hy h2₄ hs₄ => wpAny_pure ?_)
  have hTO₄ : IsPair h₄ TO x b := hs₄.extBut _ _ D.i2TO.symm hTO₃
  refine wpAny_bind (wpAny_seqItems hTO₄ rfl ?_)
  refine wpAny_bind (wpAny_updateSeq_pair hTO₄ fun h₅ hTO₅ hs₅ => ?_)
  replace hTO₅ : IsPair h₅ TO x y := hTO₅
  refine wpAny_bind (wpAny_letGo (wpAny_pure (wpAny_pure ?_)))
  refine wpAny_bind (wpAny_seqItems hTO₅ rfl ?_)
  refine wpAny_bind (wpAny_newTuple ?_)
  have hsz : h₅.objs.size = s.heap.objs.size := by rw [hs₅.1, hs₄.1, hs₃.1, hs₂.1, hs₁.1]
  have hz₅ : IsZip h₅ z TI TO .ellipsis := hs₅.extBut _ _ D.TOz.symm (hs₄.extBut _ _ D.i2z.symm (hs₃.extBut _ _ D.TOz.symm (hs₂.extBut _ _ D.i1z.symm hz₁)))
  have hk₅ : ∀ c o, c ≠ z → c ≠ TO → c ≠ i1 → c ≠ i2 → s.heap.get? c = some o → h₅.get? c = some o := fun c o c1 c2 c3 c4 e =>
    hs₅.extBut _ _ c2 (hs₄.extBut _ _ c4 (hs₃.extBut _ _ c2 (hs₂.extBut _ _ c3 (hs₁.extBut _ _ c1 e))))
  have h1₅ : S1 (k1 + 1) h₅ := I1.but (I1.but (I1.but h1₂ hs₃.extBut D.t1) hs₄.extBut D.o1) hs₅.extBut D.t1
  have h2₅ : S2 (k2 + 1) h₅ := I2.but h2₄ hs₅.extBut D.t2
  have hzlt : z < h₅.objs.size := Heap.lt_size hz₅
  show wpAny _ _ (Builtin.SmallTypes.ownedTupleHandOut (.ref z) (.ref h₅.objs.size) >>= _) _ _ _
  refine wpAny_bind ?_
  unfold Builtin.SmallTypes.ownedTupleHandOut
  have hz₆ : IsZip (h₅.push { cls := .type "tuple", data := .seq #[x, y] }) z TI TO .ellipsis := Heap.get?_push_of_some _ hz₅
  refine wpAny_bind (wpAny_setField_rec hz₆ (by simp) fun h₇ hz₇ hs₇ => ?_)
  replace hz₇ : IsZip h₇ z TI TO (rawInt h₅.objs.size) := hz₇
  refine wpAny_setField_rec hz₇ (by simp) fun h₈ hz₈ hs₈ => ?_
  replace hz₈ : IsZip h₈ z TI TO (rawInt h₅.objs.size) := hz₈
  have up : ∀ c o, c ≠ z → h₅.get? c = some o → h₈.get? c = some o := fun c o c1 e => hs₈.extBut _ _ c1 (hs₇.extBut _ _ c1 (Heap.get?_push_of_some _ e))
  have hT₈ : IsPair h₈ h₅.objs.size x y := hs₈.extBut _ _ (Nat.ne_of_gt hzlt) (hs₇.extBut _ _ (Nat.ne_of_gt hzlt) (Heap.get?_push_size _ rfl))
  rw [hsz] at hz₈ hT₈
  refine wpAny_pure ⟨_, rfl, ?_⟩
  show Q (.ref h₅.objs.size) _
  rw [hsz]
  have k8 : ∀ f : List Addr, z ∉ f → ∀ b ∈ f, ∀ o, h₅.get? b = some o → h₈.get? b = some o := fun f hf b hb o e => up b o (fun q => hf (q ▸ hb)) e
  exact hQ h₈ _ x y hx hy hz₈ (up _ _ D.TOz hTO₅) (I1.keep _ _ _ h1₅ (k8 f1 D.z1)) (I2.keep _ _ _ h2₅ (k8 f2 D.z2)) hT₈ fun c o c1 c2 c3 c4 e => up c o c1 (hk₅ c o c1 c2 c3 c4 e)
theorem zipG_end {k1 k2 : Nat} {a b : Value} {Q : Fin → Shared → Prop} (hh : A.handled = none) (I1 : ItAt prog w i1 f1 n1 P1 S1) (I2 : ItAt prog w i2 f2 n2 P2 S2) (D : ZA z TI TO i1 i2 f1 f2)
    (hz : IsZip s.heap z TI TO .none) (hTI : IsPair s.heap TI (.ref i1) (.ref i2)) (hTO : IsPair s.heap TO a b) (h1 : S1 k1 s.heap) (h2 : S2 k2 s.heap) (hend : k1 = n1 ∨ (k1 < n1 ∧ k2 = n2))
    (hE : ∀ h' tk e, (∀ c o, c ≠ z → c ≠ TO → c ≠ i1 → c ≠ i2 → s.heap.get? c = some o → h'.get? c = some o) → (∃ o, h'.get? e = some o ∧ o.cls = .type "StopIteration") → E (.ref e) { s with heap := h', toks := tk }) :
    wpAny (model prog w) A (Builtin.«zip.__next__» ⟨[.ref z], []⟩) Q E s := by
  show wpAny _ _ (field (.ref z) 2 >>= _) _ _ _
  refine wpAny_bind (wpAny_field hz rfl (x := .bool false) rfl ?_)
  show wpAny _ _ (field (.ref z) 3 >>= _) _ _ _
  refine wpAny_bind (wpAny_field hz rfl (x := .ref TI) rfl ?_)
  refine wpAny_bind (wpAny_seqItems hTI rfl ?_)
  show wpAny _ _ (Builtin.SmallTypes.ownedTupleIsFree (.ref z) >>= _) _ _ _
  refine wpAny_bind ?_
  unfold Builtin.SmallTypes.ownedTupleIsFree
  refine wpAny_bind (wpAny_field hz rfl (x := .none) rfl (wpAny_pure ?_))
  simp only [if_true]
  refine wpAny_bind (wpAny_rule ?_)
  refine wpAny_bind (wpAny_field hz rfl (x := .ref TO) rfl ?_)
  refine wpAny_bind (wpAny_setField_rec hz (by simp) fun h₁ hz₁ hs₁ => ?_)
  replace hz₁ : IsZip h₁ z TI TO .ellipsis := hz₁
  refine wpAny_bind ?_
  simp only [List.zipIdx_cons, List.zipIdx_nil, List.forIn_cons, List.forIn_nil]
  refine wpAny_bind (wpAny_bind (wpAny_onRaise ?_))
  show wpAny _ _ (Builtin.SmallTypes.nextOf (.ref i1) >>= _) _ _ _
  rcases hend with rfl | ⟨l1, rfl⟩
  · refine wpAny_bind (I1.fin _ _ _ _ hh (I1.but h1 hs₁.extBut D.z1) fun h₂ e hs₂ he => ?_)
    obtain ⟨oe, hoe, hce⟩ := he
    have hz₂ : IsZip h₂ z TI TO .ellipsis := hs₂ _ _ D.i1z.symm hz₁
    have hez : e ≠ z := fun x => by subst x; rw [hz₂] at hoe; cases hoe; simp at hce
    refine wpAny_setField_rec hz₂ (by simp) fun h₃ _ hs₃ => hE h₃ _ e (fun c o c1 _ c3 _ x => hs₃.extBut _ _ c1 (hs₂ _ _ c3 (hs₁.extBut _ _ c1 x))) ⟨oe, hs₃.extBut _ _ hez hoe, hce⟩
  · refine wpAny_bind (I1.item _ k1 _ _ _ l1 (I1.but h1 hs₁.extBut D.z1) fun x h₂ tk₂ hx h1₂ hs₂ => wpAny_pure ?_)
    have hTO₂ : IsPair h₂ TO a b := hs₂.extBut _ _ D.i1TO.symm (hs₁.extBut _ _ D.TOz hTO)
    refine wpAny_bind (wpAny_seqItems hTO₂ rfl ?_)
    refine wpAny_bind (wpAny_updateSeq_pair hTO₂ fun h₃ hTO₃ hs₃ => ?_)
    refine wpAny_bind (wpAny_letGo (wpAny_pure ?_))
    refine wpAny_bind (wpAny_bind (wpAny_onRaise ?_))
    show wpAny _ _ (Builtin.SmallTypes.nextOf (.ref i2) >>= _) _ _ _
    refine wpAny_bind (I2.fin _ _ _ _ hh (I2.but (I2.but (I2.but h2 hs₁.extBut D.z2) hs₂.extBut D.o2) hs₃.extBut D.t2) fun h₄ e hs₄ he => ?_)
    obtain ⟨oe, hoe, hce⟩ := he
    have hz₄ : IsZip h₄ z TI TO .ellipsis := hs₄ _ _ D.i2z.symm (hs₃.extBut _ _ D.TOz.symm (hs₂.extBut _ _ D.i1z.symm hz₁))
    have hez : e ≠ z := fun x => by subst x; rw [hz₄] at hoe; cases hoe; simp at hce
    refine wpAny_setField_rec hz₄ (by simp) fun h₅ _ hs₅ => hE h₅ _ e (fun c o c1 c2 c3 c4 x => hs₅.extBut _ _ c1 (hs₄ _ _ c4 (hs₃.extBut _ _ c2 (hs₂.extBut _ _ c3 (hs₁.extBut _ _ c1 x))))) ⟨oe, hs₅.extBut _ _ hez hoe, hce⟩
theorem walksZ (hh : A.handled = none) (I1 : ItAt prog w i1 f1 n1 P1 S1) (I2 : ItAt prog w i2 f2 n2 P2 S2) (D : ZA z TI TO i1 i2 f1 f2) (ls : List Addr) (hf1 : ∀ b ∈ f1, b = i1 ∨ b ∈ ls) (hf2 : ∀ b ∈ f2, b = i2 ∨ b ∈ ls) :
    WalksT prog w A z ([z, TI, TO, i1, i2] ++ ls) [z, TO, i1, i2] (min n1 n2)
      (fun i vals => ∃ x y, P1 i x ∧ P2 i y ∧ vals = #[x, y])
      (fun i h => IsZip h z TI TO .none ∧ IsPair h TI (.ref i1) (.ref i2) ∧ (∃ a b, IsPair h TO a b) ∧ S1 i h ∧ S2 i h)
      (fun i T h => IsZip h z TI TO (rawInt T) ∧ IsPair h TI (.ref i1) (.ref i2) ∧ (∃ a b, IsPair h TO a b) ∧ S1 (i + 1) h ∧ S2 (i + 1) h ∧ T ≠ z ∧ T ≠ TO ∧ T ≠ i1 ∧ T ≠ i2) where
  sub := fun c hc => by
    simp at hc
    rcases hc with rfl | rfl | rfl | rfl <;> simp
  frame := fun i h h' hst hk => by
    obtain ⟨hz, hTI, ⟨a, b, hTO⟩, h1, h2⟩ := hst
    exact ⟨hk z (by simp) _ hz, hk TI (by simp) _ hTI, ⟨a, b, hk TO (by simp) _ hTO⟩, I1.keep _ _ _ h1 (fun b hb o e => hk b (by rcases hf1 b hb with rfl | hb <;> simp [*]) o e), I2.keep _ _ _ h2 (fun b hb o e => hk b (by rcases hf2 b hb with rfl | hb <;> simp [*]) o e)⟩
  item := fun i s Q E hi hst hQ => by
    obtain ⟨hz, hTI, ⟨a, b, hTO⟩, h1, h2⟩ := hst
    have hT : s.TypeIs (.ref z) "zip" := ⟨_, hz, rfl⟩
    have lt : ∀ {c o}, s.heap.get? c = some o → s.heap.objs.size ≠ c := fun e => Nat.ne_of_gt (Heap.lt_size e)
    unfold pyNext
    refine wpAny_bind (wpAny_attempt (wpAny_callSpecial?_slot (name := Str.ofString "__next__") hT PySem.F.slot_zip_next
      (wpAny_call_entry PySem.F.slot_zip_next hT PySem.F.entry_zip_next
        (zipG_item I1 I2 D hz hTI hTO h1 h2 (Nat.lt_of_lt_of_le hi (Nat.min_le_left ..)) (Nat.lt_of_lt_of_le hi (Nat.min_le_right ..)) fun h' tk x y px py a1 a2 a3 a4 a5 hk => wpAny_pure ?_) (PySem.F.args_zip_next_1 _))))
    exact hQ s.heap.objs.size #[x, y] h' tk ⟨x, y, px, py, rfl⟩ (Nat.le_refl _) ⟨_, a5, rfl, _, rfl⟩
      ⟨a1, hk _ _ D.TIz D.TITO D.TIi1 D.TIi2 hTI, ⟨_, _, a2⟩, a3, a4, lt hz, lt hTO, (by obtain ⟨_, e⟩ := I1.has _ _ h1; exact lt e), (by obtain ⟨_, e⟩ := I2.has _ _ h2; exact lt e)⟩
      fun c o hc e => hk c o (fun x => hc (by simp [x])) (fun x => hc (by simp [x])) (fun x => hc (by simp [x])) (fun x => hc (by simp [x])) e
  go := fun elts k pos i T s Q E hm hQ => by
    obtain ⟨hz, hTI, ⟨a, b, hTO⟩, h1, h2, _⟩ := hm
    refine wpAny_letOwnedTupleGo_zip hz fun h' hz' hs' => hQ h' ⟨hz', hs'.extBut _ _ D.TIz hTI, ⟨a, b, hs'.extBut _ _ D.TOz hTO⟩, I1.but h1 hs'.extBut D.z1, I2.but h2 hs'.extBut D.z2⟩ fun c o hc e => hs'.extBut _ _ (fun x => hc (by simp [x])) e
  apart := fun i T h hm hT => by
    obtain ⟨_, _, _, _, _, t1, t2, t3, t4⟩ := hm
    simp at hT
    rcases hT with rfl | rfl | rfl | rfl
    · exact t1 rfl
    · exact t2 rfl
    · exact t3 rfl
    · exact t4 rfl
  done := fun s Q E hst hQ => by
    obtain ⟨hz, hTI, ⟨a, b, hTO⟩, h1, h2⟩ := hst
    have hT : s.TypeIs (.ref z) "zip" := ⟨_, hz, rfl⟩
    have hend : min n1 n2 = n1 ∨ (min n1 n2 < n1 ∧ min n1 n2 = n2) := by omega
    unfold pyNext
    refine wpAny_bind (wpAny_attempt (wpAny_callSpecial?_slot (name := Str.ofString "__next__") hT PySem.F.slot_zip_next
      (wpAny_call_entry PySem.F.slot_zip_next hT PySem.F.entry_zip_next (zipG_end hh I1 I2 D hz hTI hTO h1 h2 hend fun h' tk e hk he => ?_) (PySem.F.args_zip_next_1 _))))
    obtain ⟨o, ho, hc⟩ := he
    refine wpAny_bind (wpAny_isInstance (T := "StopIteration") (b := true) ⟨o, ho, hc⟩ isSubtype_stop ?_)
    exact wpAny_pure (hQ _ tk fun c o hc e => hk c o (fun x => hc (by simp [x])) (fun x => hc (by simp [x])) (fun x => hc (by simp [x])) (fun x => hc (by simp [x])) e)
  self := fun i s Q E hst hQ => wpAny_pyIter_zip hst.1 hQ
end
end Mine
end
section
open PySem PySem.W PyProof.Rows PyProof.V PySem.Calls PyProof.Rows.LCg
set_option Elab.async false
set_option maxRecDepth 100000
set_option maxHeartbeats 2000000
namespace Mine
section
variable {prog : Program} {w : World} {A : Around} {E : Value → Shared → Prop} {s : Shared} {h₀ : Heap} {L : Addr} {m : Str → Option Value} {env : Env}
/-- what a comprehension with two targets asks of any zip -/
structure SrcW (prog : Program) (w : World) (A : Around) (h₀ : Heap) (L : Addr) (m : Str → Option Value) (env : Env) (elt : PySem.Expr) (ifs : List PySem.Expr) (x x₂ : Str) (scope : Scope) (cl : List (Str × Addr)) (Q : Value → Shared → Prop) (xv : Value) (s₁ : Shared) : Prop where
  go : ∃ (z TI TO i1 i2 : Addr) (ls : List Addr) (X Y : Nat → Value → Prop) (St : Nat → Heap → Prop) (Mid : Nat → Addr → Heap → Prop) (news : List (Addr × Obj)) (J : Nat → List Value → Prop) (n : Nat),
    xv = .ref z ∧ A.handled = none ∧ IsZip s₁.heap z TI TO .none ∧ WalksT prog w A z ([z, TI, TO, i1, i2] ++ ls) [z, TO, i1, i2] n (fun i vals => ∃ x y, X i x ∧ Y i y ∧ vals = #[x, y]) St Mid ∧ St 0 s₁.heap ∧
    (∀ i h, St i h → ∃ oz oTI oTO o1 o2, h.get? z = some oz ∧ h.get? TI = some oTI ∧ h.get? TO = some oTO ∧ h.get? i1 = some o1 ∧ h.get? i2 = some o2) ∧ TI ∉ [z, TO, i1, i2] ∧ (∀ b ∈ ls, ∃ o, (b, o) ∈ news) ∧
    Fr h₀ L s₁.heap m ∧ News h₀ L s₁.heap news ∧ (∀ b, b = z ∨ b = TI ∨ b = TO ∨ b = i1 ∨ b = i2 → h₀.get? b = none ∧ b ≠ L ∧ ∀ p ∈ news, p.1 ≠ b) ∧ n ≤ sizeLine ∧ J 0 [] ∧
    (∀ i ys' v₁ v₂, X i v₁ → Y i v₂ → J i ys' → ys'.length ≤ i → ∀ oz oTI oTO o1 o2 C oC D m₂ h tk (E' : Value → Shared → Prop), NsObj oC m₂ → m₂ x = some v₁ → m₂ x₂ = some v₂ → Fr h₀ L h m →
      News h₀ L h ((z, oz) :: (TI, oTI) :: (TO, oTO) :: (i1, o1) :: (i2, o2) :: (C, oC) :: (D, lst ys') :: news) →
      wpAny (model prog w) A (forIn ifs true fun c r => if r = true then do let ok ← isTrue c (compEnvC scope cl C env) (eval c (compEnvC scope cl C env)); pure (ForInStep.yield ok) else pure (ForInStep.yield r)) (fun ok s' => if ok = true then
        wpAny (model prog w) A (eval elt (compEnvC scope cl C env)) (fun y s'' => TurnEnd h₀ L m { s₁ with heap := h, toks := tk } ((z, oz) :: (TI, oTI) :: (TO, oTO) :: (i1, o1) :: (i2, o2) :: (C, oC) :: (D, lst ys') :: news) (J (i + 1) (ys' ++ [y])) s'') E' s'
        else TurnEnd h₀ L m { s₁ with heap := h, toks := tk } ((z, oz) :: (TI, oTI) :: (TO, oTO) :: (i1, o1) :: (i2, o2) :: (C, oC) :: (D, lst ys') :: news) (J (i + 1) ys') s') E' { s₁ with heap := h, toks := tk }) ∧
    (∀ D ys' h tk, J n ys' → Fr h₀ L h m → News h₀ L h ((D, lst ys') :: news) → (∀ p ∈ news, p.1 ≠ D) → Q (.ref D) { s₁ with heap := h, toks := tk })
theorem ListComp_W {elt iter : PySem.Expr} {ifs : List PySem.Expr} {x x₂ : Str} {px px₂ tp : Pos} {tk} {scope : Scope} {cl : List (Str × Addr)} {pos : Pos} {Q : Value → Shared → Prop} (F₀ : Fr h₀ L s.heap m)
    (hclos : closureFor scope env = pure cl) (hcell : ∀ y ∈ scope.names, y.2 ≠ .cell) (hkind : scope.kind = .function)
    (hnames : ∀ y ∈ scope.names, y.2 = .local → scope.names.lookup y.1 = some .local) (hx : scope.names.lookup x = some .local) (hx₂ : scope.names.lookup x₂ = some .local) (hxx : x ≠ x₂)
    (h : wpAny (model prog w) A (eval iter env) (SrcW prog w A h₀ L m env elt ifs x x₂ scope cl Q) E s)
    (hs : ∀ x, foldedSetIterable iter env x = pure x := by intro _; rfl) :
    wpAny (model prog w) A (eval (.ListComp elt [⟨.Tuple [.Name x px, .Name x₂ px₂] tk tp, iter, ifs, 0⟩] scope pos) env) Q E s := by
  rw [eval_ListComp]
  refine wpAny_comprehension_free (use := none) rfl hs hclos hkind hnames (wpAny_mono h (fun xv s₁ h₁ => ?_) fun _ _ e => e)
  obtain ⟨z, TI, TO, i1, i2, ls, X, Y, St, Mid, news, J, n, rfl, hh, hz, W, st0, hObj, hTI, hls, F, N, off, hsz, hJ, turn, fin⟩ := h₁.go
  refine wpAny_pyIter_zip hz ?_
  refine block_W hh W st0 hObj hTI hls F N off hsz hJ hcell hkind hx hx₂ hxx turn ?_
  intro D C h tk m' ys' j F' N' o1 hn hC₀ hCL hCD offC
  refine ⟨m', hn, fun h'' hs'' => fin D ys' h'' tk j (F'.change hs'' hCL hC₀) (fun p hp => ?_) o1⟩
  refine ⟨hs''.extBut _ _ ?_ (N' p hp).1, (N' p hp).2⟩
  rcases List.mem_cons.mp hp with rfl | hp
  · exact Ne.symm hCD
  · exact offC p hp
end
section
abbrev sIt (x : Str) (t : Tok) : Obj := { cls := .type "str_ascii_iterator", data := .fields #[.str x t, .int 0 0] }
abbrev zH3 (h : Heap) (a b : Str) (t u : Tok) : Heap := ((h.push (sIt a t)).push (sIt b u)).push { cls := .type "tuple", data := .seq #[.ref h.objs.size, .ref (h.push (sIt a t)).objs.size] }
abbrev zH4 (h : Heap) (a b : Str) (t u : Tok) : Heap := (zH3 h a b t u).push { cls := .type "tuple", data := .seq #[.none, .none] }
abbrev zH5 (h : Heap) (a b : Str) (t u : Tok) : Heap := (zH4 h a b t u).push { cls := .type "zip", data := .fields #[.none, .bool false, .bool false, .ref ((h.push (sIt a t)).push (sIt b u)).objs.size, .ref (zH3 h a b t u).objs.size] }
theorem meets_zipS (a b : Str) (t u : Tok) (ha : a.cps.all (· < 128) = true) (hb : b.cps.all (· < 128) = true) :
    Meets (Builtin.«zip.__new__» ⟨[.type "zip", .str a t, .str b u], []⟩) (fun _ R s => R (.ok (.ret (.ref (zH4 s.heap a b t u).objs.size))) { s with heap := zH5 s.heap a b t u }) :=
  .of_wp fun prog w A R s h => by
    obtain ⟨hp, g, d, tk, os⟩ := s
    have hsub := sub_zip
    wp_walk using wpAny_pyIter_ascii ha, wpAny_pyIter_ascii hb
    exact ⟨_, rfl, h⟩
variable {prog : Program} {w : World} {A : Around} {E : Value → Shared → Prop} {s : Shared}
theorem call_zipS {a b : Str} {t u : Tok} {Q : Value → Shared → Prop} (ha : a.cps.all (· < 128) = true) (hb : b.cps.all (· < 128) = true)
    (h : ∀ h', IsZip h' (s.heap.objs.size + 4) (s.heap.objs.size + 2) (s.heap.objs.size + 3) .none → IsPair h' (s.heap.objs.size + 2) (.ref s.heap.objs.size) (.ref (s.heap.objs.size + 1)) →
      IsPair h' (s.heap.objs.size + 3) .none .none → h'.IsStrIter s.heap.objs.size "str_ascii_iterator" a t 0 → h'.IsStrIter (s.heap.objs.size + 1) "str_ascii_iterator" b u 0 → h'.objs.size = s.heap.objs.size + 5 →
      (∀ c o, s.heap.get? c = some o → h'.get? c = some o) → Q (.ref (s.heap.objs.size + 4)) { s with heap := h' }) :
    wpAny (model prog w) A (call (.type "zip") [.str a t, .str b u]) Q E s := by
  refine callType_new PySem.F.called_zip (by decide) (PySem.F.typeCall_zip_2 _ _) (PySem.F.newCall_zip_2 _ _) (fun obj => PySem.F.args_object_init_3 obj _ _) PySem.F.entry_zip_new
    (meets_zipS a b t u ha hb) ?_
  have z1 : (s.heap.push (sIt a t)).objs.size = s.heap.objs.size + 1 := Heap.size_push ..
  have z2 : ((s.heap.push (sIt a t)).push (sIt b u)).objs.size = s.heap.objs.size + 2 := by rw [Heap.size_push, z1]
  have z3 : (zH3 s.heap a b t u).objs.size = s.heap.objs.size + 3 := by rw [Heap.size_push, z2]
  have z4 : (zH4 s.heap a b t u).objs.size = s.heap.objs.size + 4 := by rw [Heap.size_push, z3]
  have z5 : (zH5 s.heap a b t u).objs.size = s.heap.objs.size + 5 := by rw [Heap.size_push, z4]
  have g5 : (zH5 s.heap a b t u).get? (zH4 s.heap a b t u).objs.size = some _ := Heap.get?_push_size _ rfl
  have g4 : (zH5 s.heap a b t u).get? (zH3 s.heap a b t u).objs.size = some _ := Heap.get?_push_of_some _ (Heap.get?_push_size _ rfl)
  have g3 : (zH5 s.heap a b t u).get? ((s.heap.push (sIt a t)).push (sIt b u)).objs.size = some _ := Heap.get?_push_of_some _ (Heap.get?_push_of_some _ (Heap.get?_push_size _ rfl))
  have g2 : (zH5 s.heap a b t u).get? (s.heap.push (sIt a t)).objs.size = some _ := Heap.get?_push_of_some _ (Heap.get?_push_of_some _ (Heap.get?_push_of_some _ (Heap.get?_push_size _ rfl)))
  have g1 : (zH5 s.heap a b t u).get? s.heap.objs.size = some _ := Heap.get?_push_of_some _ (Heap.get?_push_of_some _ (Heap.get?_push_of_some _ (Heap.get?_push_of_some _ (Heap.get?_push_size _ rfl))))
  show _ ∧ _
  rw [z2, z3, z4] at g5
  rw [z1, z2] at g3
  rw [z3] at g4
  rw [z1] at g2
  rw [z4]
  exact ⟨⟨_, g5, rfl⟩, h _ g5 g3 g4 ⟨_, g1, rfl, rfl⟩ ⟨_, g2, rfl, rfl⟩ z5 fun c o x =>
    Heap.get?_push_of_some _ (Heap.get?_push_of_some _ (Heap.get?_push_of_some _ (Heap.get?_push_of_some _ (Heap.get?_push_of_some _ x))))⟩
end
end Mine
end
section
open PySem PySem.W PyProof.Rows PyProof.V PySem.Calls PyProof.Rows.LCg
set_option Elab.async false
set_option maxRecDepth 100000
set_option maxHeartbeats 2000000
namespace Mine
theorem zaNew (n : Nat) : ZA (n + 4) (n + 2) (n + 3) n (n + 1) [n] [n + 1] := by
  constructor <;> (try simp only [List.mem_singleton]) <;> (intro (e : (_ : Nat) = _); omega)
section
variable {prog : Program} {w : World} {A : Around} {E : Value → Shared → Prop} {s : Shared} {h₀ : Heap} {L : Addr} {m : Str → Option Value} {env : Env}
theorem SrcW.callSS {elt : PySem.Expr} {ifs : List PySem.Expr} {x x₂ : Str} {scope : Scope} {cl : List (Str × Addr)} {Q : Value → Shared → Prop} {a b : Str} {t u : Tok} {n : Nat} {news : List (Addr × Obj)} (J : Nat → List Value → Prop)
    (hh : A.handled = none) (F : Fr h₀ L s.heap m) (N : News h₀ L s.heap news) (ha : a.cps.all (· < 128) = true) (hb : b.cps.all (· < 128) = true) (hsz : n ≤ sizeLine) (hlen : min a.cps.size b.cps.size = n) (hJ : J 0 [])
    (turn : ∀ z TI TO i1 i2 i ys' c d u₁ u₂ g, a.cps[i]? = some c → b.cps[i]? = some d → J i ys' → ys'.length ≤ i → ∀ oz oTI oTO o1 o2 C oC D m₂ h tk (E' : Value → Shared → Prop), NsObj oC m₂ → m₂ x = some (.str ⟨#[c]⟩ u₁) → m₂ x₂ = some (.str ⟨#[d]⟩ u₂) → Fr h₀ L h m →
      News h₀ L h ((z, oz) :: (TI, oTI) :: (TO, oTO) :: (i1, o1) :: (i2, o2) :: (C, oC) :: (D, lst ys') :: news) →
      wpAny (model prog w) A (forIn ifs true fun c r => if r = true then do let ok ← isTrue c (compEnvC scope cl C env) (eval c (compEnvC scope cl C env)); pure (ForInStep.yield ok) else pure (ForInStep.yield r)) (fun ok s' => if ok = true then
        wpAny (model prog w) A (eval elt (compEnvC scope cl C env)) (fun y s'' => TurnEnd h₀ L m { s with heap := g, toks := tk } ((z, oz) :: (TI, oTI) :: (TO, oTO) :: (i1, o1) :: (i2, o2) :: (C, oC) :: (D, lst ys') :: news) (J (i + 1) (ys' ++ [y])) s'') E' s'
        else TurnEnd h₀ L m { s with heap := g, toks := tk } ((z, oz) :: (TI, oTI) :: (TO, oTO) :: (i1, o1) :: (i2, o2) :: (C, oC) :: (D, lst ys') :: news) (J (i + 1) ys') s') E' { s with heap := h, toks := tk })
    (fin : ∀ D ys' h tk, J n ys' → Fr h₀ L h m → News h₀ L h ((D, lst ys') :: news) → (∀ p ∈ news, p.1 ≠ D) → Q (.ref D) { s with heap := h, toks := tk }) :
    wpAny (model prog w) A (call (.type "zip") [.str a t, .str b u]) (SrcW prog w A h₀ L m env elt ifs x x₂ scope cl Q) E s := by
  refine call_zipS ha hb fun h' hz hTI hTO hi1 hi2 hsz' hk => ?_
  have fr : ∀ b, s.heap.objs.size ≤ b → h₀.get? b = none ∧ b ≠ L ∧ ∀ p ∈ news, p.1 ≠ b := fun b hb => ⟨by
    cases e : h₀.get? b with
    | none => rfl
    | some o' => exact absurd (Heap.lt_size (F.keep b o' e)) (Nat.not_lt.mpr hb), fun e => absurd (e ▸ F.ns.lt) (Nat.not_lt.mpr hb), fun p hp e => absurd (e ▸ Heap.lt_size (N p hp).1) (Nat.not_lt.mpr hb)⟩
  have D := zaNew s.heap.objs.size
  have W := walksZ (prog := prog) (w := w) hh (ItAt.str (prog := prog) (w := w) s.heap.objs.size a t) (ItAt.str (prog := prog) (w := w) (s.heap.objs.size + 1) b u) D [] (fun c hc => .inl (List.mem_singleton.mp hc)) (fun c hc => .inl (List.mem_singleton.mp hc))
  rw [hlen] at W
  refine ⟨⟨_, _, _, _, _, [], _, _, _, _, news, J, n, rfl, hh, hz, W, ⟨hz, hTI, ⟨_, _, hTO⟩, hi1, hi2⟩, ?_, ?_, (fun b hb => nomatch hb), F.keeps hk, N.grown hk, ?_, hsz, hJ, ?_, ?_⟩⟩
  · rintro i h ⟨e1, e2, ⟨a, b, e3⟩, ⟨o1, e4, _⟩, ⟨o2, e5, _⟩⟩
    exact ⟨_, _, _, o1, o2, e1, e2, e3, e4, e5⟩
  · simp only [List.mem_cons, List.not_mem_nil, or_false, not_or]
    exact ⟨D.TIz, D.TITO, D.TIi1, D.TIi2⟩
  · rintro b (rfl | rfl | rfl | rfl | rfl)
    · exact fr _ (Nat.le_add_right _ _)
    · exact fr _ (Nat.le_add_right _ _)
    · exact fr _ (Nat.le_add_right _ _)
    · exact fr _ (Nat.le_refl _)
    · exact fr _ (Nat.le_add_right _ _)
  · rintro i ys' v₁ v₂ ⟨c, u₁, e1, rfl⟩ ⟨d, u₂, e2, rfl⟩ j hyl oz oTI oTO o1 o2 C oC D m₂ h tk E' a b c F' N'
    exact turn _ _ _ _ _ i ys' _ _ u₁ u₂ _ e1 e2 j hyl oz oTI oTO o1 o2 C oC D m₂ h tk E' a b c F' N'
  · intro D ys' h tk j F' N' o
    exact fin D ys' h tk j F' N' o
end
end Mine
end
section
open PySem PySem.W PyProof.Rows PyProof.V PySem.Calls PySem.SeqAt
set_option Elab.async false
set_option maxRecDepth 100000
namespace Mine
section
variable {prog : Program} {w : World} {A : Around} {E : Value → Shared → Prop} {s : Shared} {Q : Value → Shared → Prop}
theorem index_bools {D : Addr} {bs : List Bool} {n k : Nat} (hl : s.heap.get? D = some (listOf (bs.map Value.bool).toArray n)) (hz : bs.length ≤ 1000000) (hk : bs[k]? = some false) (hno : ∀ i, i < k → bs[i]? = some true)
    (h : Q (.int k s.toks) { s with toks := s.toks + 1 }) : wpAny (model prog w) A (call (.builtin "list.index") [.ref D, .bool false]) Q E s := by
  obtain ⟨hk1, hk2⟩ := List.getElem?_eq_some_iff.mp hk
  refine call_meets PySem.F.slot_list_index ⟨_, hl, rfl⟩ PySem.F.entry_list_index (PySem.F.args_list_index_2 _ _)
    (list_indexAt D (bs.map Value.bool).toArray n none #[] (.bool false) (isBoolOf false) k (by simpa using hk1) (by omega) ?_ ?_) ⟨hl, fun y hy => ?_, h⟩
  · simp [isBoolOf, hk2]
  · intro i hi hlt
    obtain ⟨h1, h2⟩ := List.getElem?_eq_some_iff.mp (hno i hlt)
    simp [isBoolOf, h2]
  · have hy' : y ∈ bs.map Value.bool := by simpa using hy
    obtain ⟨b, _, rfl⟩ := List.mem_map.mp hy'
    exact EqAt.bool_bool b false
end
end Mine
end
section
open PySem PySem.W PyProof.Rows PyProof.V PySem.Calls PyProof.Rows.LCg
set_option Elab.async false
set_option maxRecDepth 100000
namespace Mine
section
variable {prog : Program} {w : World} {A : Around} {E : Value → Shared → Prop} {s : Shared} {e it : Addr} {f : List Addr} {n : Nat} {P : Nat → Value → Prop} {S : Nat → Heap → Prop}
theorem enumG_item {i : Nat} {old : Value} {Q : Value → Shared → Prop} (I : ItAt prog w it f n P S) (hef : e ∉ f)
    (he : IsEnum s.heap e it i old) (hit : S i s.heap) (hi : i < n)
    (hQ : ∀ h' tk x t, P i x → IsEnumOut h' e it ((i : Int) + 1) x s.heap.objs.size → S (i + 1) h' → h'.get? s.heap.objs.size = some { cls := .type "tuple", data := .seq #[.int i t, x] } →
      (∀ b o, b ≠ e → b ≠ it → s.heap.get? b = some o → h'.get? b = some o) → Q (.ref s.heap.objs.size) { s with heap := h', toks := tk }) :
    wpAny (model prog w) A (Builtin.«enumerate.__next__» ⟨[.ref e], []⟩) (fun fin s' => ∃ v, fin = .done (.ret v) ∧ Q v s') E s := by
  have hne : e ≠ it := fun q => hef (q ▸ I.own)
  show wpAny _ _ (field (.ref e) 2 >>= _) _ _ _
  refine wpAny_bind (wpAny_field he rfl (x := .ref it) rfl ?_)
  refine wpAny_bind (I.item _ i _ _ _ hi hit fun x h₁ tk₁ hx hit₁ hs₁ => ?_)
  have he₁ : IsEnum h₁ e it i old := (hs₁.2 e hne).trans he
  show wpAny _ _ (field (.ref e) 3 >>= _) _ _ _
  refine wpAny_bind (wpAny_field he₁ rfl (x := rawInt i) rfl ?_)
  show wpAny _ _ (field (.ref e) 4 >>= _) _ _ _
  refine wpAny_bind (wpAny_field he₁ rfl (x := .none) rfl ?_)
  show wpAny _ _ (mkInt i >>= _) _ _ _
  refine wpAny_bind (wpAny_mkInt ?_)
  show wpAny _ _ (setField (.ref e) 3 (rawInt ((i : Int) + 1)) >>= _) _ _ _
  refine wpAny_bind (wpAny_setField_rec he₁ (by simp) fun h₂ he₂ hs₂ => ?_)
  replace he₂ : IsEnum h₂ e it ((i : Int) + 1) old := he₂
  show wpAny _ _ (setField (.ref e) 4 .none >>= _) _ _ _
  refine wpAny_bind (wpAny_setField_rec he₂ (by simp) fun h₃ he₃ hs₃ => ?_)
  replace he₃ : IsEnum h₃ e it ((i : Int) + 1) old := he₃
  show wpAny _ _ (newTuple [.int i tk₁, x] >>= _) _ _ _
  refine wpAny_bind (wpAny_newTuple ?_)
  have he₄ : IsEnum (h₃.push { cls := .type "tuple", data := .seq #[.int i tk₁, x] }) e it ((i : Int) + 1) old := Heap.get?_push_of_some _ he₃
  have hsz : h₃.objs.size = s.heap.objs.size := by rw [hs₃.1, hs₂.1, hs₁.1]
  have hel : e < s.heap.objs.size := Heap.lt_size he
  have ht₄ : (h₃.push { cls := .type "tuple", data := .seq #[.int i tk₁, x] }).get? s.heap.objs.size = some { cls := .type "tuple", data := .seq #[.int i tk₁, x] } := by rw [← hsz]; exact Heap.get?_push_size _ rfl
  have hk₄ : ∀ b o, b ≠ e → b ≠ it → s.heap.get? b = some o → (h₃.push { cls := .type "tuple", data := .seq #[.int i tk₁, x] }).get? b = some o := fun b o hbe hbi hb =>
    Heap.get?_push_of_some _ (hs₃.extBut b o hbe (hs₂.extBut b o hbe (hs₁.extBut b o hbi hb)))
  have hit₄ : S (i + 1) (h₃.push { cls := .type "tuple", data := .seq #[.int i tk₁, x] }) := I.keep _ _ _ (I.but (I.but hit₁ hs₂.extBut hef) hs₃.extBut hef) fun b hb o q => Heap.get?_push_of_some _ q
  generalize hh₄ : h₃.push { cls := .type "tuple", data := .seq #[.int i tk₁, x] } = h₄ at he₄ ht₄ hk₄ hit₄
  show wpAny _ _ (Builtin.SmallTypes.ownedTupleIsFree (.ref e) >>= _) _ _ _
  rw [hsz]
  refine wpAny_bind ?_
  unfold Builtin.SmallTypes.ownedTupleIsFree
  refine wpAny_bind (wpAny_field he₄ rfl (x := .none) rfl (wpAny_pure ?_))
  simp only [if_true]
  refine wpAny_bind (wpAny_rule ?_)
  refine wpAny_bind (wpAny_field he₄ rfl (x := old) rfl ?_)
  refine wpAny_bind (wpAny_setField_rec he₄ (by simp) fun h₅ he₅ hs₅ => ?_)
  replace he₅ : IsEnum h₅ e it ((i : Int) + 1) x := he₅
  show wpAny _ _ (Builtin.SmallTypes.ownedTupleHandOut (.ref e) (.ref s.heap.objs.size) >>= _) _ _ _
  refine wpAny_bind ?_
  unfold Builtin.SmallTypes.ownedTupleHandOut
  refine wpAny_bind (wpAny_setField_rec he₅ (by simp) fun h₆ he₆ hs₆ => ?_)
  replace he₆ : IsEnumOut h₆ e it ((i : Int) + 1) x s.heap.objs.size := he₆
  refine wpAny_setField_rec he₆ (by simp) fun h₇ he₇ hs₇ => ?_
  replace he₇ : IsEnumOut h₇ e it ((i : Int) + 1) x s.heap.objs.size := he₇
  refine wpAny_bind (wpAny_letGo (wpAny_pure ⟨_, rfl, hQ h₇ _ x tk₁ hx he₇ (I.but (I.but (I.but hit₄ hs₅.extBut hef) hs₆.extBut hef) hs₇.extBut hef) ?_ ?_⟩))
  · exact hs₇.extBut _ _ (Nat.ne_of_gt hel) (hs₆.extBut _ _ (Nat.ne_of_gt hel) (hs₅.extBut _ _ (Nat.ne_of_gt hel) ht₄))
  · exact fun b o hbe hbi hb => hs₇.extBut b o hbe (hs₆.extBut b o hbe (hs₅.extBut b o hbe (hk₄ b o hbe hbi hb)))
theorem enumG_go {elts : List PySem.Expr} {x1} {pos : Pos} {T : Addr} {j : Int} {x : Value} {Q : Unit → Shared → Prop} (hz : IsEnumOut s.heap e it j x T)
    (hQ : ∀ h', IsEnum h' e it j x → Heap.SameBut e s.heap h' → Q () { s with heap := h' }) :
    wpAny (model prog w) A (letOwnedTupleGo (.Tuple elts x1 pos) (.ref e) (.ref T)) Q E s := by
  unfold letOwnedTupleGo
  refine wpAny_bind (wpAny_load hz ?_)
  show wpAny _ _ (if (["enumerate", "zip", "dict_itemiterator", "dict_reverseitemiterator", "odict_iterator", "itertools.zip_longest", "itertools.pairwise"].contains "enumerate" &&
      (#[rawInt T, .bool false, .ref it, rawInt j, .none, x] : Array Value)[0]? == some (rawInt T)) = true then _ else _) Q E s
  rw [if_pos (by simp)]
  refine wpAny_bind (wpAny_rule ?_)
  show wpAny _ _ (setField (.ref e) 0 .none) Q E s
  exact wpAny_setField_rec hz (by simp) fun h' hz' hs' => hQ h' hz' hs'
theorem enumG_iter {i : Int} {old : Value} {Q : Value → Shared → Prop} (he : IsEnum s.heap e it i old) (h : Q (.ref e) s) : wpAny (model prog w) A (pyIter (.ref e)) Q E s := by
  have hT : s.TypeIs (.ref e) "enumerate" := ⟨_, he, rfl⟩
  refine wpAny_pyIter_slot hT PySem.F.slot_enumerate_iter (wpAny_call_entry PySem.F.slot_enumerate_iter hT PySem.F.entry_enumerate_iter ?_ (PySem.F.args_enumerate_iter_1 _))
  show wpAny _ _ (ret (.ref e)) _ _ s
  exact wpAny_pure ⟨_, rfl, "enumerate", _, hT, PySem.F.slot_enumerate_next.lookup, h⟩
theorem walksE (hh : A.handled = none) (I : ItAt prog w it [it] n P S) (hne : e ≠ it) :
    WalksT prog w A e [e, it] [e, it] n (fun i vals => ∃ x t, P i x ∧ vals = #[.int i t, x])
      (fun i h => (∃ old, IsEnum h e it i old) ∧ S i h) (fun i T h => (∃ x, IsEnumOut h e it ((i : Int) + 1) x T) ∧ S (i + 1) h ∧ T ≠ e ∧ T ≠ it) where
  sub := fun c hc => hc
  frame := fun i h h' hst hk => by
    obtain ⟨⟨old, he⟩, h1⟩ := hst
    exact ⟨⟨old, hk e (by simp) _ he⟩, I.keep _ _ _ h1 fun b hb o q => hk b (by simp [List.mem_singleton.mp hb]) o q⟩
  item := fun i s Q E hi hst hQ => by
    obtain ⟨⟨old, he⟩, h1⟩ := hst
    have hT : s.TypeIs (.ref e) "enumerate" := ⟨_, he, rfl⟩
    have lt : ∀ {c o}, s.heap.get? c = some o → s.heap.objs.size ≠ c := fun q => Nat.ne_of_gt (Heap.lt_size q)
    unfold pyNext
    refine wpAny_bind (wpAny_attempt (wpAny_callSpecial?_slot (name := Str.ofString "__next__") hT PySem.F.slot_enumerate_next
      (wpAny_call_entry PySem.F.slot_enumerate_next hT PySem.F.entry_enumerate_next
        (enumG_item I (by simpa using hne) he h1 hi fun h' tk x t px a1 a2 a3 hk => wpAny_pure ?_) (PySem.F.args_enumerate_next_1 _))))
    exact hQ s.heap.objs.size #[.int i t, x] h' tk ⟨x, t, px, rfl⟩ (Nat.le_refl _) ⟨_, a3, rfl, _, rfl⟩
      ⟨⟨x, a1⟩, a2, lt he, (by obtain ⟨_, q⟩ := I.has _ _ h1; exact lt q)⟩ fun c o hc q => hk c o (fun x => hc (by simp [x])) (fun x => hc (by simp [x])) q
  go := fun elts k pos i T s Q E hm hQ => by
    obtain ⟨⟨x, he⟩, h1, _⟩ := hm
    refine enumG_go he fun h' he' hs' => hQ h' ⟨⟨x, by simpa using he'⟩, I.but h1 hs'.extBut (by simpa using hne)⟩ fun c o hc q => hs'.extBut _ _ (fun x => hc (by simp [x])) q
  apart := fun i T h hm hT => by
    obtain ⟨_, _, t1, t2⟩ := hm
    simp at hT
    rcases hT with rfl | rfl
    · exact t1 rfl
    · exact t2 rfl
  done := fun s Q E hst hQ => by
    obtain ⟨⟨old, he⟩, h1⟩ := hst
    have hT : s.TypeIs (.ref e) "enumerate" := ⟨_, he, rfl⟩
    unfold pyNext
    refine wpAny_bind (wpAny_attempt (wpAny_callSpecial?_slot (name := Str.ofString "__next__") hT PySem.F.slot_enumerate_next
      (wpAny_call_entry PySem.F.slot_enumerate_next hT PySem.F.entry_enumerate_next ?_ (PySem.F.args_enumerate_next_1 _))))
    show wpAny _ _ (field (.ref e) 2 >>= _) _ _ _
    refine wpAny_bind (wpAny_field he rfl (x := .ref it) rfl ?_)
    refine wpAny_bind (I.fin _ _ _ _ hh h1 fun h' x he' hx' => ?_)
    obtain ⟨o, ho, hc⟩ := hx'
    refine wpAny_bind (wpAny_isInstance (T := "StopIteration") (b := true) ⟨o, ho, hc⟩ isSubtype_stop ?_)
    exact wpAny_pure (hQ _ s.toks fun c o hc q => he' c o (fun x => hc (by simp [x])) q)
  self := fun i s Q E hst hQ => by
    obtain ⟨⟨old, he⟩, _⟩ := hst
    exact enumG_iter he hQ
end
end Mine
end
section
open PySem PySem.W PyProof.Rows PyProof.V PySem.Calls PyProof.Rows.LCg
set_option Elab.async false
set_option maxRecDepth 100000
set_option maxHeartbeats 2000000
namespace Mine
section
variable {prog : Program} {w : World} {A : Around} {E : Value → Shared → Prop} {s : Shared} {h₀ : Heap} {L : Addr} {m : Str → Option Value} {env : Env}
/-- what a turn of a dict comprehension is asked -/
abbrev DTurn (prog : Program) (w : World) (A : Around) (h₀ : Heap) (L : Addr) (m : Str → Option Value) (env : Env) (kx vx : PySem.Expr) (x : Str) (scope : Scope) (cl : List (Str × Addr)) (s : Shared) (P : Nat → Value → Prop) (J : Nat → List (Str × Value) → Prop) (news : List (Addr × Obj)) : Prop :=
  ∀ i kvs v, P i v → J i kvs → ∀ I oI C oC D oD m₂ h tk (E' : Value → Shared → Prop), NsObj oC m₂ → m₂ x = some v → Fr h₀ L h m → oD.IsDictOf (strKind prog w) kvs →
    News h₀ L h ((I, oI) :: (C, oC) :: (D, oD) :: news) → Off3 I C D news →
    wpAny (model prog w) A (eval kx (compEnvC scope cl C env)) (fun kv s' => wpAny (model prog w) A (eval vx (compEnvC scope cl C env)) (fun vv s'' => ∃ k t, kv = .str k t ∧
      TurnEnd h₀ L m { s with heap := h, toks := tk } ((I, oI) :: (C, oC) :: (D, oD) :: news) (J (i + 1) (stored kvs k vv)) s'') E' s') E' { s with heap := h, toks := tk }
theorem block_D {kx vx iter : PySem.Expr} {x : Str} {px : Pos} {scope : Scope} {cl : List (Str × Addr)} {pos : Pos} {s₂ : Shared} {I : Addr} {n : Nat} {P : Nat → Value → Prop} {St : Nat → Heap → Prop} {news : List (Addr × Obj)} {J : Nat → List (Str × Value) → Prop} {RR : Value → Addr → Result → Shared → Prop}
    (W : Walks prog w A I [I] [I] n P St) (hsz : n ≤ sizeLine) (hIo : ∀ i h, St i h → ∃ o, h.get? I = some o) (hSt : ∀ i h h' o, St i h → h.get? I = some o → h'.get? I = some o → St i h')
    (hcell : ∀ y ∈ scope.names, y.2 ≠ .cell) (hkind : scope.kind = .function) (hx : scope.names.lookup x = some .local) (hst : St 0 s₂.heap)
    (F : Fr h₀ L s₂.heap m) (N : News h₀ L s₂.heap news) (hIL : I ≠ L) (hI₀ : h₀.get? I = none) (off : ∀ p ∈ news, p.1 ≠ I) (hJ : J 0 []) (turn : DTurn prog w A h₀ L m env kx vx x scope cl s₂ P J news)
    (hRR : ∀ D oD C h tk m' kvs, J n kvs → Fr h₀ L h m → oD.IsDictOf (strKind prog w) kvs → News h₀ L h ((D, oD) :: news) → (∀ p ∈ news, p.1 < D) → (∀ b o, h₀.get? b = some o → b < D) → h.Ns C m' → h₀.get? C = none → C ≠ L → C ≠ D → (∀ p ∈ news, p.1 ≠ C) → RR (.ref D) C (.ok .next) { s₂ with heap := h, toks := tk }) :
    wpAny (model prog w) A newDict (fun acc s₃ => wpAny (model prog w) A (newFunctionEnv scope env.globals cl [] env.qual none .none (some env)) (fun cenv s₄ =>
      codeAny (model prog w) A (.compStart (.DictComp kx vx [⟨.Name x px, iter, [], 0⟩] scope pos) 0 (.ref I) acc { cenv with scope := relabel scope env }) (RR acc cenv.locals) s₄) E s₃) E s₂ := by
  refine wpAny_newObj_type (wpAny_newFunctionEnv hcell (by intro y hy; simp at hy) (fun h₁ hns₁ hsb₁ => ?_) hkind)
  dsimp only at hns₁ hsb₁ ⊢
  have hnew : (s₂.heap.push { cls := .type "dict", dict := none, data := .dict #[] }).DictOf (strKind prog w) s₂.heap.objs.size [] := Heap.DictOf.new s₂.heap
  generalize hH2 : s₂.heap.push { cls := .type "dict", dict := none, data := .dict #[] } = H2 at hns₁ hsb₁ hnew ⊢
  have hC : H2.objs.size = s₂.heap.objs.size + 1 := by rw [← hH2, Heap.size_push]
  have hDC : s₂.heap.objs.size ≠ H2.objs.size := by rw [hC]; exact Nat.ne_of_lt (Nat.lt_succ_self _)
  have below : ∀ b, b < s₂.heap.objs.size → b ≠ H2.objs.size ∧ b ≠ s₂.heap.objs.size := fun b hb => ⟨by rw [hC]; exact Nat.ne_of_lt (Nat.lt_succ_of_lt hb), Nat.ne_of_lt hb⟩
  have old : ∀ b o, s₂.heap.get? b = some o → h₁.get? b = some o := fun b o e => hsb₁.extBut b o (below b (Heap.lt_size e)).1 (Heap.get?_push_of_some _ (hH2 ▸ Heap.get?_push_of_some _ e))
  obtain ⟨oD₁, hoD₁, hdD₁⟩ := Heap.dictOf_iff.mp hnew
  have hacc : h₁.get? s₂.heap.objs.size = some oD₁ := hsb₁.extBut _ _ hDC (Heap.get?_push_of_some _ hoD₁)
  have hIlt : I < s₂.heap.objs.size := by obtain ⟨o, e⟩ := hIo _ _ hst; exact Heap.lt_size e
  have hst₁ : St 0 h₁ := by
    obtain ⟨o, e⟩ := hIo _ _ hst
    exact hSt _ _ _ _ hst e (old _ _ e)
  have fresh₀ : ∀ a, s₂.heap.objs.size ≤ a → h₀.get? a = none := fun a ha => by
    cases e : h₀.get? a with
    | none => rfl
    | some o' => exact absurd (Heap.lt_size (F.keep a o' e)) (Nat.not_lt.mpr ha)
  have hD₀ : h₀.get? s₂.heap.objs.size = none := fresh₀ _ (Nat.le_refl _)
  have hC₀ : h₀.get? H2.objs.size = none := fresh₀ _ (by rw [hC]; exact Nat.le_succ _)
  have hLlt : L < s₂.heap.objs.size := F.ns.lt
  have hDL : s₂.heap.objs.size ≠ L := Ne.symm (below L hLlt).2
  have hCL : H2.objs.size ≠ L := Ne.symm (below L hLlt).1
  have hCI : H2.objs.size ≠ I := Ne.symm (below I hIlt).1
  have hDI : s₂.heap.objs.size ≠ I := Ne.symm (below I hIlt).2
  have hnC : ∀ p ∈ news, p.1 ≠ H2.objs.size := fun p hp => (below _ (Heap.lt_size (N p hp).1)).1
  have hnD : ∀ p ∈ news, p.1 ≠ s₂.heap.objs.size := fun p hp => (below _ (Heap.lt_size (N p hp).1)).2
  have off3 : Off3 I H2.objs.size s₂.heap.objs.size news := Off3.of fun p hp => ⟨off p hp, hnC p hp, hnD p hp⟩
  have loop : ∀ s₃ : Shared, s₃ = { s₂ with heap := h₁, toks := s₂.toks + ([] : List (Str × Value)).length } →
      codeAny (model prog w) A (.compLoop (.DictComp kx vx [⟨.Name x px, iter, [], 0⟩] scope pos) 0 (.ref I) (.ref s₂.heap.objs.size) (compEnvC scope cl H2.objs.size env))
        (RR (.ref s₂.heap.objs.size) H2.objs.size) s₃ := by
    rintro s₃ rfl
    refine codeAny_compLoop_testsD
      (fun k s' => ∃ h' tk i kvs m' oD, s' = { s₂ with heap := h', toks := tk } ∧ i ≤ n ∧ k = n + 1 - i ∧ kvs.length ≤ i ∧ St i h' ∧ Fr h₀ L h' m ∧ h'.Ns H2.objs.size m' ∧ oD.IsDictOf (strKind prog w) kvs ∧ News h₀ L h' ((s₂.heap.objs.size, oD) :: news) ∧ J i kvs) ?_ (n + 1)
      ⟨h₁, _, 0, [], _, oD₁, rfl, Nat.zero_le _, rfl, Nat.le_refl _, hst₁, F.keeps old, hns₁, hdD₁, fun p hp => ?_, hJ⟩
    · rintro k s' ⟨h', tk, i, kvs, m', oD, rfl, hi, rfl, hkl, hst', F', hn', hdD, N', j'⟩
      by_cases hlt : i < n
      · refine W.item i _ _ _ hlt hst' fun v h₂ tk₂ hPv hst₂ hk₂ => ?_
        have N₂ : News h₀ L h₂ ((s₂.heap.objs.size, oD) :: news) := news_but N' hk₂ fun p hp => by
          rcases List.mem_cons.mp hp with rfl | hp
          · exact hDI
          · exact off p hp
        have F₂ : Fr h₀ L h₂ m := fr_but F' hk₂ (Ne.symm hIL) hI₀
        have hn₂ : h₂.Ns H2.objs.size m' := hn'.at' fun o e => hk₂ _ o (by simpa using hCI) e
        refine wpAny_assign_Name (wpAny_storeName_local (lookup_relabel_local hx) hn₂ (fun h₃ hn₃ hs₃ => ?_) (by simp [compEnvC, relabel, hkind]))
        refine wpAny_tests_nil ?_
        rw [if_pos rfl]
        have hst₃ : St (i + 1) h₃ := by
          obtain ⟨o, e⟩ := hIo _ _ hst₂
          exact hSt _ _ _ _ hst₂ e (hs₃.extBut _ _ (Ne.symm hCI) e)
        obtain ⟨oI, heI⟩ := hIo _ _ hst₃
        obtain ⟨oC, heC, hoC⟩ := ns_obj hn₃
        have F₃ : Fr h₀ L h₃ m := F₂.change hs₃ hCL hC₀
        have N₃ : News h₀ L h₃ ((I, oI) :: (H2.objs.size, oC) :: (s₂.heap.objs.size, oD) :: news) := fun p hp => by
          rcases List.mem_cons.mp hp with rfl | hp
          · exact ⟨heI, hIL, hI₀⟩
          rcases List.mem_cons.mp hp with rfl | hp
          · exact ⟨heC, hCL, hC₀⟩
          · have zz := N₂ p hp
            refine ⟨hs₃.extBut _ _ ?_ zz.1, zz.2⟩
            rcases List.mem_cons.mp hp with rfl | hp
            · exact hDC
            · exact hnC p hp
        refine wpAny_mono (turn i kvs v hPv j' I oI H2.objs.size oC s₂.heap.objs.size oD _ h₃ _ _ hoC (by simp) F₃ hdD N₃ off3) (fun kv s₄ h₄ => wpAny_mono h₄ (fun vv s₅ h₅ => ?_) fun _ _ e => e) fun _ _ e => e
        obtain ⟨key, tt, rfl, h₈, tk₈, rfl, F₈, N₈, j₈⟩ := h₅
        have zI := (N₈ (I, oI) (.head _)).1
        have zC := (N₈ (H2.objs.size, oC) (.tail _ (.head _))).1
        have zD := (N₈ (s₂.heap.objs.size, oD) (.tail _ (.tail _ (.head _)))).1
        have hst₈ : St (i + 1) h₈ := hSt _ _ _ _ hst₃ heI zI
        refine wpAny_dictSet_pairs (knd := strKind prog w) (strKind_is _ _ _ _) (Heap.dictOf_iff.mpr ⟨oD, zD, hdD⟩) (fun h₉ hD₉ hs₉ => ?_) (Nat.le_trans hkl (Nat.le_trans hi hsz))
        obtain ⟨oD₉, zD₉, hdD₉⟩ := Heap.dictOf_iff.mp hD₉
        refine ⟨n + 1 - (i + 1), by omega, h₉, _, i + 1, stored kvs key vv, _, oD₉, rfl, hlt, rfl, Nat.le_trans (stored_length_le kvs key vv) (Nat.succ_le_succ hkl), hSt _ _ _ _ hst₈ zI (hs₉.extBut _ _ (Ne.symm hDI) zI), F₈.change hs₉ hDL hD₀, (hoC.ns zC).sameBut hs₉ (Ne.symm hDC), hdD₉, fun p hp => ?_, j₈⟩
        rcases List.mem_cons.mp hp with rfl | hp
        · exact ⟨zD₉, hDL, hD₀⟩
        · have q := N₈ p (.tail _ (.tail _ (.tail _ hp)))
          exact ⟨hs₉.extBut _ _ (hnD p hp) q.1, q.2⟩
      · obtain rfl : i = n := Nat.le_antisymm hi (Nat.not_lt.mp hlt)
        refine W.done _ _ _ hst' fun h₂ tk₂ hk₂ => ?_
        exact hRR _ oD _ h₂ tk₂ _ kvs j' (fr_but F' hk₂ (Ne.symm hIL) hI₀) hdD (news_but N' hk₂ fun p hp => by
          rcases List.mem_cons.mp hp with rfl | hp
          · exact hDI
          · exact off p hp) (fun p hp => Heap.lt_size (N p hp).1) (fun b o e => Heap.lt_size (F.keep b o e)) (hn'.at' fun o e => hk₂ _ o (by simpa using hCI) e) hC₀ hCL (Ne.symm hDC) hnC
    · rcases List.mem_cons.mp hp with rfl | hp
      · exact ⟨hacc, hDL, hD₀⟩
      · exact ⟨old _ _ (N p hp).1, (N p hp).2⟩
  exact codeAny_compStart_dict (loop _ rfl) (W.self 0 _ _ _ hst₁ (loop _ rfl))
/-- what a dict comprehension with one target asks of a text -/
structure SrcD (prog : Program) (w : World) (A : Around) (h₀ : Heap) (L : Addr) (m : Str → Option Value) (env : Env) (kx vx : PySem.Expr) (x : Str) (scope : Scope) (cl : List (Str × Addr)) (Q : Value → Shared → Prop) (xv : Value) (s₁ : Shared) : Prop where
  go : ∃ (y : Str) (t : Tok) (news : List (Addr × Obj)) (J : Nat → List (Str × Value) → Prop), xv = .str y t ∧ A.handled = none ∧ Fr h₀ L s₁.heap m ∧ News h₀ L s₁.heap news ∧ y.cps.all (· < 128) = true ∧ y.cps.size ≤ sizeLine ∧ J 0 [] ∧
    (∀ s₂ : Shared, (∃ h, s₂ = { s₁ with heap := h }) → DTurn prog w A h₀ L m env kx vx x scope cl s₂ (SignAt y) J news) ∧
    ∀ D oD kvs h tk, J y.cps.size kvs → oD.IsDictOf (strKind prog w) kvs → Fr h₀ L h m → News h₀ L h ((D, oD) :: news) → (∀ p ∈ news, p.1 < D) → (∀ b o, h₀.get? b = some o → b < D) → Q (.ref D) { s₁ with heap := h, toks := tk }
theorem DictComp_S {kx vx iter : PySem.Expr} {x : Str} {px : Pos} {scope : Scope} {cl : List (Str × Addr)} {pos : Pos} {Q : Value → Shared → Prop} (F₀ : Fr h₀ L s.heap m)
    (hclos : closureFor scope env = pure cl) (hcell : ∀ y ∈ scope.names, y.2 ≠ .cell) (hkind : scope.kind = .function)
    (hnames : ∀ y ∈ scope.names, y.2 = .local → scope.names.lookup y.1 = some .local) (hx : scope.names.lookup x = some .local)
    (h : wpAny (model prog w) A (eval iter env) (SrcD prog w A h₀ L m env kx vx x scope cl Q) E s)
    (hs : ∀ x, foldedSetIterable iter env x = pure x := by intro _; rfl) :
    wpAny (model prog w) A (eval (.DictComp kx vx [⟨.Name x px, iter, [], 0⟩] scope pos) env) Q E s := by
  rw [arm_eval_DictComp]
  refine wpAny_comprehension_free (use := none) rfl hs hclos hkind hnames (wpAny_mono h (fun xv s₁ h₁ => ?_) fun _ _ e => e)
  obtain ⟨y, t, news, J, rfl, hh, F, N, ha, hsz, hJ, turn, fin⟩ := h₁.go
  refine wpAny_pyIter_ascii ha ?_
  have up : ∀ b o, s₁.heap.get? b = some o → (s₁.heap.push { cls := .type "str_ascii_iterator", data := .fields #[.str y t, .int 0 0] }).get? b = some o := fun _ _ e => Heap.get?_push_of_some _ e
  refine block_D (Walks.strAscii hh s₁.heap.objs.size y t) hsz (fun i h st => by obtain ⟨o, e, _⟩ := st; exact ⟨o, e⟩) (fun i h h' o st e e' => by obtain ⟨o', q, r⟩ := st; rw [e] at q; cases q; exact ⟨o, e', r⟩) hcell hkind hx ⟨_, Heap.get?_push_size _ rfl, rfl, rfl⟩
    (F.keeps up) (N.grown up) (Nat.ne_of_gt F.ns.lt) (next_is_new F) (fun p hp => Nat.ne_of_lt (Heap.lt_size (N p hp).1)) hJ (turn _ ⟨_, rfl⟩) ?_
  intro D oD C h tk m' kvs j F' hd N' n1 n2 hn hC₀ hCL hCD offC
  refine ⟨m', hn, fun h'' hs'' => fin D oD kvs h'' tk j hd (F'.change hs'' hCL hC₀) (fun p hp => ?_) n1 n2⟩
  refine ⟨hs''.extBut _ _ ?_ (N' p hp).1, (N' p hp).2⟩
  rcases List.mem_cons.mp hp with rfl | hp
  · exact Ne.symm hCD
  · exact offC p hp
end
end Mine
end
section
open PySem PySem.W PyProof.Rows PyProof.V PySem.Calls PyProof.Rows.LCg
set_option Elab.async false
set_option maxRecDepth 100000
set_option maxHeartbeats 2000000
namespace Mine
section
variable {prog : Program} {w : World} {A : Around} {E : Value → Shared → Prop} {s : Shared} {h₀ : Heap} {L : Addr} {m : Str → Option Value} {env : Env}
theorem loop_pairD {kx vx iter : PySem.Expr} {elts : List PySem.Expr} {x1} {tp : Pos} {scope : Scope} {pos : Pos} {it : Value} {D : Addr} {env : Env} {R : Result → Shared → Prop} (I : Nat → Shared → Prop)
    (turn : ∀ n s, I n s → wpAny (model prog w) A (pyNext it) (fun r s₁ => match r with
      | none => R (.ok .next) s₁
      | some v => wpAny (model prog w) A (letOwnedTupleGo (.Tuple elts x1 tp) it v) (fun _ s₁' => wpAny (model prog w) A (assign (.Tuple elts x1 tp) env v) (fun _ s₂ =>
          wpAny (model prog w) A (eval kx env) (fun kv s₄ => wpAny (model prog w) A (eval vx env) (fun vv s₅ =>
              wpAny (model prog w) A (dictSet D kv vv) (fun _ s₆ => ∃ m, m < n ∧ I m s₆) (notedBy (model prog w) A env fun e s' => R (.error e) s') s₅) (notedBy (model prog w) A env fun e s' => R (.error e) s') s₄) (notedBy (model prog w) A env fun e s' => R (.error e) s') s₂)
          (notedBy (model prog w) A env fun e s' => R (.error e) s') s₁') (notedBy (model prog w) A env fun e s' => R (.error e) s') s₁) (notedBy (model prog w) A env fun e s' => R (.error e) s') s)
    (n : Nat) (h : I n s) : codeAny (model prog w) A (.compLoop (.DictComp kx vx [⟨.Tuple elts x1 tp, iter, [], 0⟩] scope pos) 0 it (.ref D) env) R s := by
  refine codeAny_loop rfl I (fun n s hI => ?_) n h
  show wpAny _ A ((compTurn (.DictComp kx vx [⟨.Tuple elts x1 tp, iter, [], 0⟩] scope pos) 0 it (.ref D) env).onRaise (fun x => do noteFrame x env; theTreesLotGoes x)) _ _ s
  refine wpAny_noted ?_
  rw [compTurn_dict]
  refine wpAny_bind (wpAny_standAt (wpAny_bind (wpAny_mono (turn n s hI) (fun r s₁ h₁ => ?_) fun _ _ h' => h')))
  cases r with
  | none => exact wpAny_pure h₁
  | some v =>
    refine wpAny_bind (wpAny_mono h₁ (fun _ s₁' h₁' => ?_) fun _ _ h' => h')
    refine wpAny_bind (wpAny_mono h₁' (fun _ s₂ h₂ => ?_) fun _ _ h' => h')
    refine wpAny_bind (wpAny_tests_nil ?_)
    rw [if_pos rfl]
    refine wpAny_bind (wpAny_bind (wpAny_mono h₂ (fun kv s₄ h₄ => ?_) fun _ _ h' => h'))
    refine wpAny_bind (wpAny_holding (wpAny_mono h₄ (fun vv s₅ h₅ => ?_) fun _ _ h' => h'))
    refine wpAny_bind (wpAny_standAt ?_)
    exact wpAny_holding (wpAny_mono h₅ (fun _ s₆ h₆ => wpAny_pure ⟨rfl, h₆⟩) fun _ _ h' => h')
/-- what a turn of a dict comprehension is asked -/
abbrev DTurn2 (prog : Program) (w : World) (A : Around) (h₀ : Heap) (L : Addr) (m : Str → Option Value) (env : Env) (kx vx : PySem.Expr) (x x₂ : Str) (scope : Scope) (cl : List (Str × Addr)) (s : Shared) (P : Nat → Value → Value → Prop) (J : Nat → List (Str × Value) → Prop) (news : List (Addr × Obj)) : Prop :=
  ∀ i kvs v v₂, P i v v₂ → J i kvs → ∀ I oI I2 oI2 C oC D oD m₂ h tk (E' : Value → Shared → Prop), NsObj oC m₂ → m₂ x = some v → m₂ x₂ = some v₂ → Fr h₀ L h m → oD.IsDictOf (strKind prog w) kvs →
    News h₀ L h ((I, oI) :: (I2, oI2) :: (C, oC) :: (D, oD) :: news) → Off3 I C D news →
    wpAny (model prog w) A (eval kx (compEnvC scope cl C env)) (fun kv s' => wpAny (model prog w) A (eval vx (compEnvC scope cl C env)) (fun vv s'' => ∃ k t, kv = .str k t ∧
      TurnEnd h₀ L m { s with heap := h, toks := tk } ((I, oI) :: (I2, oI2) :: (C, oC) :: (D, oD) :: news) (J (i + 1) (stored kvs k vv)) s'') E' s') E' { s with heap := h, toks := tk }
theorem block_D2 {kx vx iter : PySem.Expr} {x x₂ : Str} {px px₂ tp : Pos} {tk0} {scope : Scope} {cl : List (Str × Addr)} {pos : Pos} {s₂ : Shared} {I I2 : Addr} {n : Nat} {P : Nat → Value → Value → Prop} {Mid : Nat → Addr → Heap → Prop} {St : Nat → Heap → Prop} {news : List (Addr × Obj)} {J : Nat → List (Str × Value) → Prop} {RR : Value → Addr → Result → Shared → Prop}
    (hh : A.handled = none) (W : WalksT prog w A I [I, I2] [I, I2] n (fun i vals => ∃ a b, P i a b ∧ vals = #[a, b]) St Mid) (hsz : n ≤ sizeLine) (hIo : ∀ i h, St i h → ∃ o o2, h.get? I = some o ∧ h.get? I2 = some o2)
    (hcell : ∀ y ∈ scope.names, y.2 ≠ .cell) (hkind : scope.kind = .function) (hx : scope.names.lookup x = some .local) (hx₂ : scope.names.lookup x₂ = some .local) (hxx : x ≠ x₂) (hst : St 0 s₂.heap)
    (F : Fr h₀ L s₂.heap m) (N : News h₀ L s₂.heap news) (hIL : I ≠ L) (hI₀ : h₀.get? I = none) (off : ∀ p ∈ news, p.1 ≠ I) (hIL2 : I2 ≠ L) (hI₀2 : h₀.get? I2 = none) (off2 : ∀ p ∈ news, p.1 ≠ I2) (hJ : J 0 []) (turn : DTurn2 prog w A h₀ L m env kx vx x x₂ scope cl s₂ P J news)
    (hRR : ∀ D oD C h tk m' kvs, J n kvs → Fr h₀ L h m → oD.IsDictOf (strKind prog w) kvs → News h₀ L h ((D, oD) :: news) → (∀ p ∈ news, p.1 < D) → (∀ b o, h₀.get? b = some o → b < D) → h.Ns C m' → h₀.get? C = none → C ≠ L → C ≠ D → (∀ p ∈ news, p.1 ≠ C) → RR (.ref D) C (.ok .next) { s₂ with heap := h, toks := tk }) :
    wpAny (model prog w) A newDict (fun acc s₃ => wpAny (model prog w) A (newFunctionEnv scope env.globals cl [] env.qual none .none (some env)) (fun cenv s₄ =>
      codeAny (model prog w) A (.compStart (.DictComp kx vx [⟨.Tuple [.Name x px, .Name x₂ px₂] tk0 tp, iter, [], 0⟩] scope pos) 0 (.ref I) acc { cenv with scope := relabel scope env }) (RR acc cenv.locals) s₄) E s₃) E s₂ := by
  refine wpAny_newObj_type (wpAny_newFunctionEnv hcell (by intro y hy; simp at hy) (fun h₁ hns₁ hsb₁ => ?_) hkind)
  dsimp only at hns₁ hsb₁ ⊢
  have hnew : (s₂.heap.push { cls := .type "dict", dict := none, data := .dict #[] }).DictOf (strKind prog w) s₂.heap.objs.size [] := Heap.DictOf.new s₂.heap
  generalize hH2 : s₂.heap.push { cls := .type "dict", dict := none, data := .dict #[] } = H2 at hns₁ hsb₁ hnew ⊢
  have hC : H2.objs.size = s₂.heap.objs.size + 1 := by rw [← hH2, Heap.size_push]
  have hDC : s₂.heap.objs.size ≠ H2.objs.size := by rw [hC]; exact Nat.ne_of_lt (Nat.lt_succ_self _)
  have below : ∀ b, b < s₂.heap.objs.size → b ≠ H2.objs.size ∧ b ≠ s₂.heap.objs.size := fun b hb => ⟨by rw [hC]; exact Nat.ne_of_lt (Nat.lt_succ_of_lt hb), Nat.ne_of_lt hb⟩
  have old : ∀ b o, s₂.heap.get? b = some o → h₁.get? b = some o := fun b o e => hsb₁.extBut b o (below b (Heap.lt_size e)).1 (Heap.get?_push_of_some _ (hH2 ▸ Heap.get?_push_of_some _ e))
  obtain ⟨oD₁, hoD₁, hdD₁⟩ := Heap.dictOf_iff.mp hnew
  have hacc : h₁.get? s₂.heap.objs.size = some oD₁ := hsb₁.extBut _ _ hDC (Heap.get?_push_of_some _ hoD₁)
  have hIlt : I < s₂.heap.objs.size := by obtain ⟨o, o2, e, e2⟩ := hIo _ _ hst; exact Heap.lt_size e
  have hIlt2 : I2 < s₂.heap.objs.size := by obtain ⟨o, o2, e, e2⟩ := hIo _ _ hst; exact Heap.lt_size e2
  have hst₁ : St 0 h₁ := W.frame _ _ _ hst fun b _ o e => old b o e
  have fresh₀ : ∀ a, s₂.heap.objs.size ≤ a → h₀.get? a = none := fun a ha => by
    cases e : h₀.get? a with
    | none => rfl
    | some o' => exact absurd (Heap.lt_size (F.keep a o' e)) (Nat.not_lt.mpr ha)
  have hD₀ : h₀.get? s₂.heap.objs.size = none := fresh₀ _ (Nat.le_refl _)
  have hC₀ : h₀.get? H2.objs.size = none := fresh₀ _ (by rw [hC]; exact Nat.le_succ _)
  have hLlt : L < s₂.heap.objs.size := F.ns.lt
  have hDL : s₂.heap.objs.size ≠ L := Ne.symm (below L hLlt).2
  have hCL : H2.objs.size ≠ L := Ne.symm (below L hLlt).1
  have hCI : H2.objs.size ≠ I := Ne.symm (below I hIlt).1
  have hDI : s₂.heap.objs.size ≠ I := Ne.symm (below I hIlt).2
  have hCI2 : H2.objs.size ≠ I2 := Ne.symm (below I2 hIlt2).1
  have hDI2 : s₂.heap.objs.size ≠ I2 := Ne.symm (below I2 hIlt2).2
  have wrOff : ∀ b ∈ [I, I2], h₀.get? b = none ∧ b ≠ L ∧ (∀ p ∈ news, p.1 ≠ b) ∧ b < s₂.heap.objs.size := by
    intro b hb
    simp only [List.mem_cons, List.not_mem_nil, or_false] at hb
    rcases hb with rfl | rfl
    · exact ⟨hI₀, hIL, off, hIlt⟩
    · exact ⟨hI₀2, hIL2, off2, hIlt2⟩
  have hLwr : L ∉ [I, I2] := fun hb => (wrOff L hb).2.1 rfl
  have hCwr : H2.objs.size ∉ [I, I2] := fun hb => (below _ (wrOff _ hb).2.2.2).1 rfl
  have hDwr : s₂.heap.objs.size ∉ [I, I2] := fun hb => (below _ (wrOff _ hb).2.2.2).2 rfl
  have hnW : ∀ p ∈ news, p.1 ∉ [I, I2] := fun p hp hb => (wrOff _ hb).2.2.1 p hp rfl
  have hnC : ∀ p ∈ news, p.1 ≠ H2.objs.size := fun p hp => (below _ (Heap.lt_size (N p hp).1)).1
  have hnD : ∀ p ∈ news, p.1 ≠ s₂.heap.objs.size := fun p hp => (below _ (Heap.lt_size (N p hp).1)).2
  have off3 : Off3 I H2.objs.size s₂.heap.objs.size news := Off3.of fun p hp => ⟨off p hp, hnC p hp, hnD p hp⟩
  have loop : ∀ s₃ : Shared, s₃ = { s₂ with heap := h₁, toks := s₂.toks + ([] : List (Str × Value)).length } →
      codeAny (model prog w) A (.compLoop (.DictComp kx vx [⟨.Tuple [.Name x px, .Name x₂ px₂] tk0 tp, iter, [], 0⟩] scope pos) 0 (.ref I) (.ref s₂.heap.objs.size) (compEnvC scope cl H2.objs.size env))
        (RR (.ref s₂.heap.objs.size) H2.objs.size) s₃ := by
    rintro s₃ rfl
    refine loop_pairD
      (fun k s' => ∃ h' tk i kvs m' oD, s' = { s₂ with heap := h', toks := tk } ∧ i ≤ n ∧ k = n + 1 - i ∧ kvs.length ≤ i ∧ St i h' ∧ Fr h₀ L h' m ∧ h'.Ns H2.objs.size m' ∧ oD.IsDictOf (strKind prog w) kvs ∧ News h₀ L h' ((s₂.heap.objs.size, oD) :: news) ∧ J i kvs) ?_ (n + 1)
      ⟨h₁, _, 0, [], _, oD₁, rfl, Nat.zero_le _, rfl, Nat.le_refl _, hst₁, F.keeps old, hns₁, hdD₁, fun p hp => ?_, hJ⟩
    · rintro k s' ⟨h', tk, i, kvs, m', oD, rfl, hi, rfl, hkl, hst', F', hn', hdD, N', j'⟩
      by_cases hlt : i < n
      · refine W.item i _ _ _ hlt hst' fun T vals h₂ tk₂ hPv hTge hT hMid hk₂ => ?_
        obtain ⟨v, v₂, hPv, rfl⟩ := hPv
        have N₂a : News h₀ L h₂ ((s₂.heap.objs.size, oD) :: news) := newsB N' hk₂ fun p hp => by
          rcases List.mem_cons.mp hp with rfl | hp
          · exact hDwr
          · exact hnW p hp
        have F₂a : Fr h₀ L h₂ m := frB F' hk₂ hLwr fun b hb => (wrOff b hb).1
        have hn₂a : h₂.Ns H2.objs.size m' := hn'.at' fun o e => hk₂ _ o hCwr e
        refine W.go _ _ _ i T _ _ _ hMid fun h₃' hst₃' hk₃ => ?_
        have hT₃ : IsTup h₃' T #[v, v₂] := by
          obtain ⟨o, ho, hc, q, hd⟩ := hT
          exact ⟨o, hk₃ T o (W.apart _ _ _ hMid) ho, hc, q, hd⟩
        have N₂ : News h₀ L h₃' ((s₂.heap.objs.size, oD) :: news) := newsB N₂a hk₃ fun p hp => by
          rcases List.mem_cons.mp hp with rfl | hp
          · exact hDwr
          · exact hnW p hp
        have F₂ : Fr h₀ L h₃' m := frB F₂a hk₃ hLwr fun b hb => (wrOff b hb).1
        have hn₃' : h₃'.Ns H2.objs.size m' := hn₂a.at' fun o e => hk₃ _ o hCwr e
        refine assign_Tuple_tuple hh hT₃ rfl rfl fun h₅ he => ?_
        have he' : ∀ b o, h₃'.get? b = some o → h₅.get? b = some o := fun b o e => he b o (Nat.ne_of_lt (Heap.lt_size e)) e
        refine assignInOrder_cons (wpAny_assign_Name (wpAny_storeName_local (lookup_relabel_local hx) (hn₃'.at' fun o e => he' _ o e) (fun h₆ hn₆ hs₆ => ?_) (by simp [compEnvC, relabel, hkind])))
        refine assignInOrder_cons (wpAny_assign_Name (wpAny_storeName_local (lookup_relabel_local hx₂) hn₆ (fun h₃ hn₃ hs₃ => ?_) (by simp [compEnvC, relabel, hkind])))
        refine assignInOrder_nil ?_
        have old7 : ∀ b o, b ≠ H2.objs.size → h₃'.get? b = some o → h₃.get? b = some o := fun b o hb e => hs₃.extBut b o hb (hs₆.extBut b o hb (he' b o e))
        have hst₃ : St (i + 1) h₃ := W.frame _ _ _ hst₃' fun b hb o e => old7 b o (below b (wrOff b hb).2.2.2).1 e
        obtain ⟨oI, oI2, heI, heI2⟩ := hIo _ _ hst₃
        obtain ⟨oC, heC, hoC⟩ := ns_obj hn₃
        have F₃ : Fr h₀ L h₃ m := ((F₂.keeps he').change hs₆ hCL hC₀).change hs₃ hCL hC₀
        have N₃ : News h₀ L h₃ ((I, oI) :: (I2, oI2) :: (H2.objs.size, oC) :: (s₂.heap.objs.size, oD) :: news) := fun p hp => by
          rcases List.mem_cons.mp hp with rfl | hp
          · exact ⟨heI, hIL, hI₀⟩
          rcases List.mem_cons.mp hp with rfl | hp
          · exact ⟨heI2, hIL2, hI₀2⟩
          rcases List.mem_cons.mp hp with rfl | hp
          · exact ⟨heC, hCL, hC₀⟩
          · have zz := N₂ p hp
            refine ⟨old7 _ _ ?_ zz.1, zz.2⟩
            rcases List.mem_cons.mp hp with rfl | hp
            · exact hDC
            · exact hnC p hp
        refine wpAny_mono (turn i kvs v v₂ hPv j' I oI I2 oI2 H2.objs.size oC s₂.heap.objs.size oD _ h₃ _ _ hoC (by simp [hxx]) (by simp) F₃ hdD N₃ off3) (fun kv s₄ h₄ => wpAny_mono h₄ (fun vv s₅ h₅ => ?_) fun _ _ e => e) fun _ _ e => e
        obtain ⟨key, tt, rfl, h₈, tk₈, rfl, F₈, N₈, j₈⟩ := h₅
        have zI := (N₈ (I, oI) (.head _)).1
        have zI2 := (N₈ (I2, oI2) (.tail _ (.head _))).1
        have zC := (N₈ (H2.objs.size, oC) (.tail _ (.tail _ (.head _)))).1
        have zD := (N₈ (s₂.heap.objs.size, oD) (.tail _ (.tail _ (.tail _ (.head _))))).1
        have hst₈ : St (i + 1) h₈ := W.frame _ _ _ hst₃ fun b hb o e => by
          simp only [List.mem_cons, List.not_mem_nil, or_false] at hb
          rcases hb with rfl | rfl
          · rw [heI] at e; cases e; exact zI
          · rw [heI2] at e; cases e; exact zI2
        refine wpAny_dictSet_pairs (knd := strKind prog w) (strKind_is _ _ _ _) (Heap.dictOf_iff.mpr ⟨oD, zD, hdD⟩) (fun h₉ hD₉ hs₉ => ?_) (Nat.le_trans hkl (Nat.le_trans hi hsz))
        obtain ⟨oD₉, zD₉, hdD₉⟩ := Heap.dictOf_iff.mp hD₉
        refine ⟨n + 1 - (i + 1), by omega, h₉, _, i + 1, stored kvs key vv, _, oD₉, rfl, hlt, rfl, Nat.le_trans (stored_length_le kvs key vv) (Nat.succ_le_succ hkl), W.frame _ _ _ hst₈ (fun b hb o e => hs₉.extBut b o (below b (wrOff b hb).2.2.2).2 e), F₈.change hs₉ hDL hD₀, (hoC.ns zC).sameBut hs₉ (Ne.symm hDC), hdD₉, fun p hp => ?_, j₈⟩
        rcases List.mem_cons.mp hp with rfl | hp
        · exact ⟨zD₉, hDL, hD₀⟩
        · have q := N₈ p (.tail _ (.tail _ (.tail _ (.tail _ hp))))
          exact ⟨hs₉.extBut _ _ (hnD p hp) q.1, q.2⟩
      · obtain rfl : i = n := Nat.le_antisymm hi (Nat.not_lt.mp hlt)
        refine W.done _ _ _ hst' fun h₂ tk₂ hk₂ => ?_
        exact hRR _ oD _ h₂ tk₂ _ kvs j' (frB F' hk₂ hLwr fun b hb => (wrOff b hb).1) hdD (newsB N' hk₂ fun p hp => by
          rcases List.mem_cons.mp hp with rfl | hp
          · exact hDwr
          · exact hnW p hp) (fun p hp => Heap.lt_size (N p hp).1) (fun b o e => Heap.lt_size (F.keep b o e)) (hn'.at' fun o e => hk₂ _ o hCwr e) hC₀ hCL (Ne.symm hDC) hnC
    · rcases List.mem_cons.mp hp with rfl | hp
      · exact ⟨hacc, hDL, hD₀⟩
      · exact ⟨old _ _ (N p hp).1, (N p hp).2⟩
  exact codeAny_compStart_dict (loop _ rfl) (W.self 0 _ _ _ hst₁ (loop _ rfl))
end
end Mine
end
section
open PySem PySem.W PyProof.Rows PyProof.V PySem.Calls PyProof.Rows.LCg
set_option Elab.async false
set_option maxRecDepth 100000
set_option maxHeartbeats 2000000
namespace Mine
section
variable {prog : Program} {w : World} {A : Around} {E : Value → Shared → Prop} {s : Shared} {h₀ : Heap} {L : Addr} {m : Str → Option Value} {env : Env}
/-- what a dict comprehension with two targets asks of an enumerated text -/
structure SrcDE (prog : Program) (w : World) (A : Around) (h₀ : Heap) (L : Addr) (m : Str → Option Value) (env : Env) (kx vx : PySem.Expr) (x x₂ : Str) (scope : Scope) (cl : List (Str × Addr)) (Q : Value → Shared → Prop) (xv : Value) (s₁ : Shared) : Prop where
  go : ∃ (e it : Addr) (y : Str) (t : Tok) (news : List (Addr × Obj)) (J : Nat → List (Str × Value) → Prop), xv = .ref e ∧ A.handled = none ∧ e ≠ it ∧ IsEnum s₁.heap e it 0 .none ∧ s₁.heap.IsStrIter it "str_ascii_iterator" y t 0 ∧
    (∀ b, b = e ∨ b = it → h₀.get? b = none ∧ b ≠ L ∧ ∀ p ∈ news, p.1 ≠ b) ∧ Fr h₀ L s₁.heap m ∧ News h₀ L s₁.heap news ∧ y.cps.size ≤ sizeLine ∧ J 0 [] ∧
    DTurn2 prog w A h₀ L m env kx vx x x₂ scope cl s₁ (fun i a b => ∃ t x, SignAt y i x ∧ a = .int i t ∧ b = x) J news ∧
    ∀ D oD kvs h tk, J y.cps.size kvs → oD.IsDictOf (strKind prog w) kvs → Fr h₀ L h m → News h₀ L h ((D, oD) :: news) → (∀ p ∈ news, p.1 < D) → (∀ b o, h₀.get? b = some o → b < D) → Q (.ref D) { s₁ with heap := h, toks := tk }
theorem DictComp_E {kx vx iter : PySem.Expr} {x x₂ : Str} {px px₂ tp : Pos} {tk0} {scope : Scope} {cl : List (Str × Addr)} {pos : Pos} {Q : Value → Shared → Prop} (F₀ : Fr h₀ L s.heap m)
    (hclos : closureFor scope env = pure cl) (hcell : ∀ y ∈ scope.names, y.2 ≠ .cell) (hkind : scope.kind = .function)
    (hnames : ∀ y ∈ scope.names, y.2 = .local → scope.names.lookup y.1 = some .local) (hx : scope.names.lookup x = some .local) (hx₂ : scope.names.lookup x₂ = some .local) (hxx : x ≠ x₂)
    (h : wpAny (model prog w) A (eval iter env) (SrcDE prog w A h₀ L m env kx vx x x₂ scope cl Q) E s)
    (hs : ∀ x, foldedSetIterable iter env x = pure x := by intro _; rfl) :
    wpAny (model prog w) A (eval (.DictComp kx vx [⟨.Tuple [.Name x px, .Name x₂ px₂] tk0 tp, iter, [], 0⟩] scope pos) env) Q E s := by
  rw [arm_eval_DictComp]
  refine wpAny_comprehension_free (use := none) rfl hs hclos hkind hnames (wpAny_mono h (fun xv s₁ h₁ => ?_) fun _ _ e => e)
  obtain ⟨e, it, y, t, news, J, rfl, hh, hne, he, hit, off, F, N, hsz, hJ, turn, fin⟩ := h₁.go
  refine enumG_iter he ?_
  have W := walksE (prog := prog) (w := w) (e := e) hh (ItAt.str (prog := prog) (w := w) it y t) hne
  have W2 : WalksT prog w A e [e, it] [e, it] y.cps.size (fun i vals => ∃ a b, (∃ t x, SignAt y i x ∧ a = .int i t ∧ b = x) ∧ vals = #[a, b]) (fun i h => (∃ old, IsEnum h e it i old) ∧ h.IsStrIter it "str_ascii_iterator" y t i) (fun i T h => (∃ x, IsEnumOut h e it ((i : Int) + 1) x T) ∧ h.IsStrIter it "str_ascii_iterator" y t (i + 1) ∧ T ≠ e ∧ T ≠ it) :=
    { sub := W.sub, frame := W.frame, go := W.go, apart := W.apart, done := W.done, self := W.self,
      item := fun i s Q E hi hst hQ => W.item i s Q E hi hst fun T vals h' tk hP => hQ T vals h' tk (by
        obtain ⟨x, t, px, rfl⟩ := hP
        exact ⟨_, _, ⟨t, x, px, rfl, rfl⟩, rfl⟩) }
  refine block_D2 hh W2 hsz ?_ hcell hkind hx hx₂ hxx ⟨⟨_, he⟩, hit⟩ F N (off _ (.inl rfl)).2.1 (off _ (.inl rfl)).1 (off _ (.inl rfl)).2.2 (off _ (.inr rfl)).2.1 (off _ (.inr rfl)).1 (off _ (.inr rfl)).2.2 hJ turn ?_
  · rintro i h ⟨⟨old, e1⟩, ⟨o, e2, _⟩⟩
    exact ⟨_, o, e1, e2⟩
  intro D oD C h tk m' kvs j F' hd N' n1 n2 hn hC₀ hCL hCD offC
  refine ⟨m', hn, fun h'' hs'' => fin D oD kvs h'' tk j hd (F'.change hs'' hCL hC₀) (fun p hp => ?_) n1 n2⟩
  refine ⟨hs''.extBut _ _ ?_ (N' p hp).1, (N' p hp).2⟩
  rcases List.mem_cons.mp hp with rfl | hp
  · exact Ne.symm hCD
  · exact offC p hp
theorem SrcDE.call {kx vx : PySem.Expr} {x x₂ : Str} {scope : Scope} {cl : List (Str × Addr)} {Q : Value → Shared → Prop} {y : Str} {t : Tok} {news : List (Addr × Obj)} (J : Nat → List (Str × Value) → Prop)
    (hh : A.handled = none) (F : Fr h₀ L s.heap m) (N : News h₀ L s.heap news) (ha : y.cps.all (· < 128) = true) (hsz : y.cps.size ≤ sizeLine) (hJ : J 0 [])
    (turn : ∀ g, DTurn2 prog w A h₀ L m env kx vx x x₂ scope cl { s with heap := g } (fun i a b => ∃ t x, SignAt y i x ∧ a = .int i t ∧ b = x) J news)
    (fin : ∀ D oD kvs h tk, J y.cps.size kvs → oD.IsDictOf (strKind prog w) kvs → Fr h₀ L h m → News h₀ L h ((D, oD) :: news) → (∀ p ∈ news, p.1 < D) → (∀ b o, h₀.get? b = some o → b < D) → Q (.ref D) { s with heap := h, toks := tk }) :
    wpAny (model prog w) A (call (.type "enumerate") [.str y t]) (SrcDE prog w A h₀ L m env kx vx x x₂ scope cl Q) E s := by
  have hty : strIterType y = "str_ascii_iterator" := by
    unfold strIterType
    rw [ha]
    rfl
  refine call_enumerate_str fun h' he hit _ hk => ?_
  rw [hty] at hit
  have fr : ∀ b, s.heap.objs.size ≤ b → h₀.get? b = none ∧ b ≠ L ∧ ∀ p ∈ news, p.1 ≠ b := fun b hb => ⟨by
    cases e : h₀.get? b with
    | none => rfl
    | some o' => exact absurd (Heap.lt_size (F.keep b o' e)) (Nat.not_lt.mpr hb), fun e => absurd (e ▸ F.ns.lt) (Nat.not_lt.mpr hb), fun p hp e => absurd (e ▸ Heap.lt_size (N p hp).1) (Nat.not_lt.mpr hb)⟩
  refine ⟨⟨_, _, y, t, news, J, rfl, hh, Nat.ne_of_gt (Nat.lt_succ_self _), he, hit, ?_, F.keeps hk, N.grown hk, hsz, hJ, turn _, fin⟩⟩
  rintro b (rfl | rfl)
  · exact fr _ (Nat.le_add_right _ _)
  · exact fr _ (Nat.le_refl _)
end
end Mine
end
section
open PySem PySem.W PyProof.Rows
set_option Elab.async false
set_option maxRecDepth 100000
namespace Mine
/-- a dict's pairs: one-letter keys in order, each with a text -/
def KvsAre (f : Str → Str) (l : List Nat) (kvs : List (Str × Value)) : Prop := kvs.map (·.1) = l.map (fun c => (⟨#[c]⟩ : Str)) ∧ ∀ p ∈ kvs, ∃ t, p.2 = .str (f p.1) t
theorem KvsAre.nil (f : Str → Str) : KvsAre f [] [] := ⟨rfl, fun _ h => nomatch h⟩
theorem one_ne {c d : Nat} (h : c ≠ d) : (⟨#[c]⟩ : Str) ≠ ⟨#[d]⟩ := fun e => h (by
  have : (⟨#[c]⟩ : Str).cps.toList = (⟨#[d]⟩ : Str).cps.toList := by rw [e]
  exact List.head_eq_of_cons_eq this)
theorem KvsAre.snoc {f : Str → Str} {l : List Nat} {kvs : List (Str × Value)} (h : KvsAre f l kvs) {c : Nat} (hc : c ∉ l) (t : Tok) : KvsAre f (l ++ [c]) (stored kvs ⟨#[c]⟩ (.str (f ⟨#[c]⟩) t)) := by
  have hn : (kvs.any fun kv => decide (kv.1 = (⟨#[c]⟩ : Str))) = false := by
    rw [List.any_eq_false]
    intro p hp
    have hm : p.1 ∈ kvs.map (·.1) := List.mem_map_of_mem hp
    rw [h.1] at hm
    obtain ⟨d, hd, e⟩ := List.mem_map.mp hm
    rw [← e]
    simp only [decide_eq_true_eq]
    exact one_ne (fun q => hc (q ▸ hd))
  unfold stored
  rw [hn, if_neg (by decide)]
  refine ⟨by rw [List.map_append, h.1, List.map_append]; rfl, fun p hp => ?_⟩
  rcases List.mem_append.mp hp with hp | hp
  · exact h.2 p hp
  · rw [List.mem_singleton.mp hp]
    exact ⟨t, rfl⟩
def putF (f : Str → Str) (k : Str) : Str := if k = ⟨#[120]⟩ ∨ k = ⟨#[121]⟩ ∨ k = ⟨#[122]⟩ then f k else k
theorem KvsAre.get {f : Str → Str} {kvs : List (Str × Value)} (h : KvsAre f [120, 121, 122] kvs) (k : Str) (u : Tok) : ∃ t, (valueAt kvs k).getD (.str k u) = .str (putF f k) t := by
  unfold valueAt
  cases e : kvs.find? (fun kv => decide (kv.1 = k)) with
  | none =>
    have hk : ¬ (k = ⟨#[120]⟩ ∨ k = ⟨#[121]⟩ ∨ k = ⟨#[122]⟩) := by
      intro hk
      have hm : k ∈ kvs.map (·.1) := by
        rw [h.1]
        simp only [List.map_cons, List.map_nil, List.mem_cons, List.not_mem_nil, or_false]
        exact hk
      obtain ⟨p, hp, rfl⟩ := List.mem_map.mp hm
      have := List.find?_eq_none.mp e p hp
      simp at this
    unfold putF
    rw [if_neg hk]
    exact ⟨u, rfl⟩
  | some p =>
    have hp := List.mem_of_find?_eq_some e
    have hk : p.1 = k := by simpa using List.find?_some e
    have hm : p.1 ∈ kvs.map (·.1) := List.mem_map_of_mem hp
    rw [h.1, hk] at hm
    simp only [List.map_cons, List.map_nil, List.mem_cons, List.not_mem_nil, or_false] at hm
    unfold putF
    rw [if_pos hm]
    obtain ⟨t, ht⟩ := h.2 p hp
    rw [hk] at ht
    exact ⟨t, ht⟩
theorem KvsAre.item {f : Str → Str} {kvs : List (Str × Value)} (h : KvsAre f [120, 121, 122] kvs) {c : Nat} (hc : c = 120 ∨ c = 121 ∨ c = 122) : ∃ t, valueAt kvs ⟨#[c]⟩ = some (.str (f ⟨#[c]⟩) t) := by
  have hm : (⟨#[c]⟩ : Str) ∈ kvs.map (·.1) := by
    rw [h.1]
    rcases hc with rfl | rfl | rfl <;> simp
  obtain ⟨p, hp, e⟩ := List.mem_map.mp hm
  unfold valueAt
  cases e' : kvs.find? (fun kv => decide (kv.1 = (⟨#[c]⟩ : Str))) with
  | none =>
    have := List.find?_eq_none.mp e' p hp
    simp [e] at this
  | some q =>
    have hq := List.mem_of_find?_eq_some e'
    have hk : q.1 = ⟨#[c]⟩ := by simpa using List.find?_some e'
    obtain ⟨t, ht⟩ := h.2 q hq
    rw [hk] at ht
    exact ⟨t, by rw [← ht]; rfl⟩
end Mine
end
section
open PySem PySem.W PyProof.Rows PyProof.V PySem.Calls
set_option Elab.async false
set_option maxRecDepth 100000
namespace Mine
section
variable {prog : Program} {w : World} {A : Around} {E : Value → Shared → Prop} {s : Shared} {env : Env} {h₀ : Heap} {body : List Stmt} {Q : Flow → Shared → Prop}
def rangeItms (n : Nat) : List Itm := (List.range n).map fun i => .tok fun t => .int (i : Nat) t
/-- a for over range(n), its target any name (a cell too): the iterator is the items' keeper -/
theorem iter_rangeTurns {x : Str} {px : Pos} {r : Addr} {t₀ u₀ v₀ : Tok} {n : Nat} {m₀ : Str → Option Value} {news : List (Addr × Obj)}
    (hh : A.handled = none) (hr : IsRange s.heap r 0 (n : Int) 1 t₀ u₀ v₀) (hsmall : Builtin.Range.small 0 (n : Int) 1 = true) (hn : Builtin.Range.rangeSize 0 (n : Int) 1 = (n : Int)) (F : Fr h₀ env.locals s.heap m₀) (N : News h₀ env.locals s.heap news)
    (rest₀ : ∀ I : Addr, (∀ p ∈ news, p.1 < I) → ItemsRest prog w A E h₀ env (.Name x px) body Q s [(I, "range_iterator")] [] (rangeItms n) m₀ news) :
    wpAny (model prog w) A (pyIter (.ref r)) (fun it s₂ => TurnsAt prog w A h₀ env (.Name x px) body Q E it s₂) E s := by
  refine wpAny_pyIter_range hr hsmall ?_
  have hl : n = (rangeItms n).length := by simp [rangeItms]
  refine ktu_core (tk0 := s.toks) (keep := []) (KTurns.ofWalks ((Walks.range hh s.heap.objs.size 0 1 n).bound) fun i v s Q E st q => wpAny_pure q) hl (fun i v h hp => ?_) (fun i h st => ?_) (fun b hb => ?_) (fun b hb => by simpa using hb) (fun b hb => ?_) ?_ (fun p hp hI => ?_) ?_ (F.push _) (fun p hp => ⟨Heap.get?_push_of_some _ (N p hp).1, (N p hp).2⟩) trivial (rest₀ _ fun p hp => Heap.lt_size (N p hp).1)
  · obtain ⟨hi, t, rfl⟩ := hp
    refine ⟨.tok fun t => .int (i : Nat) t, by simp [rangeItms, hi], t, ?_⟩
    rw [Int.mul_one, Int.zero_add]
  · exact ⟨[(s.heap.objs.size, _)], ⟨⟨rfl, rfl⟩, trivial⟩, fun p hp => by rw [List.mem_singleton.mp hp]; exact st⟩
  · have hb' : b = s.heap.objs.size := by simpa using hb
    rw [hb']
    exact ⟨List.mem_cons_self .., next_is_new F⟩
  · have hb' : b = s.heap.objs.size := by simpa using hb
    exact .inl (by simp [hb'])
  · intro hI
    rcases List.mem_cons.mp hI with e | hI
    · exact absurd F.ns.lt (e ▸ Nat.lt_irrefl _)
    · cases hI
  · exact absurd (Heap.lt_size (N p hp).1) ((List.mem_singleton.mp hI) ▸ Nat.lt_irrefl _)
  · show IsRangeIter _ _ _ _ _
    rw [hn]
    simpa using Heap.get?_push_size _ rfl
theorem rangeRest_ind {target : PySem.Expr} {ws : List (Addr × String)} {n : Nat} (J : Nat → (Str → Option Value) → List (Addr × Obj) → Prop)
    (step : ∀ i m news, i < n → J i m news → ∀ t h tk, Fr h₀ env.locals h m → AllObj ws (fun its => News h₀ env.locals h (its ++ news) →
      wpAny (model prog w) A (assign target env (.int (i : Nat) t)) (fun _ s₂ => wpAny (model prog w) A (execs body env) (UnrPostW h₀ env.locals { s with heap := h, toks := tk } its (fun m' n' => J (i + 1) m' n') Q) E s₂) E { s with heap := h, toks := tk }))
    (fin : ∀ m news, J n m news → ∀ h tk, Fr h₀ env.locals h m → News h₀ env.locals h news → Q .next { s with heap := h, toks := tk }) :
    ∀ k i m news, k + i = n → J i m news → ItemsRest prog w A E h₀ env target body Q s ws [] ((rangeItms n).drop i) m news
  | 0, i, m, news, e, j => by
    have hi : i = n := by omega
    subst hi
    rw [show (rangeItms i).drop i = [] from List.drop_eq_nil_of_le (by simp [rangeItms])]
    exact ItemsRest.zero (fin m news j)
  | k + 1, i, m, news, e, j => by
    have hlt : i < n := by omega
    have hd : (rangeItms n).drop i = (.tok fun t => .int (i : Nat) t) :: (rangeItms n).drop (i + 1) := by
      rw [List.drop_eq_getElem_cons (by simpa [rangeItms] using hlt)]
      simp [rangeItms]
    rw [hd]
    refine ItemsRest.tok fun t h tk F => AllObj.mono (step i m news hlt j t h tk F) fun its g N => ?_
    refine wpAny_mono (g N) (fun _ s₂ q => wpAny_mono q (fun f s' p => ?_) fun _ _ e => e) fun _ _ e => e
    exact UnrPostW.mono p fun m' n' q => ⟨trivial, rangeRest_ind J step fin k (i + 1) m' n' (by omega) q⟩
end
end Mine
end
section
open PySem PySem.W PyProof.Rows
set_option Elab.async false
set_option maxRecDepth 100000
set_option maxHeartbeats 2000000
set_option pp.deepTerms true
set_option pp.proofs false
namespace Mine
local macro_rules | `(tactic| walk_at "ent") => `(tactic| ((case kA => exact rfl); (case kF => exact rfl); (case kK => assumption); (case k1 => k_asm); (case k2 => k_asm); (case k3 => k_asm); (case k5 => k_asm); (case k6 => k_is); (case k7 => k_is); (case k8 => ktr_room); (case k9 => (refine' kp_binds ?kx ?ke; (case kx => k_in); (case ke => exact fun _ => rfl))); (case c5 => decide); (case kB => exact locs rfl); (case c2 => exact rfl); (case c3 => exact rfl); (case c4 => exact rfl); k_whole))
local macro_rules | `(tactic| walk_at "getMethod ref") => `(tactic| (k_here; (with_reducible show wpAny _ _ (getMethod (Value.ref _) (PySem.Str.ofString "search") _) _ _ _); k_dflt (refine' getMethod_patK ?X ?ho ?hc ?hd ?_; (case X => k_in); (case ho => k_is); (case hc => exact rfl); (case hd => exact rfl); k_whole)))
local macro_rules | `(tactic| walk_at "call builtin:re.Pattern.search") => `(tactic| (k_here; k_dflt (first
  | (refine' re_name ?X ?hp ?hc ?hd ?ht ?htd ?h6 ?h5 ?hcode ?hx ?hn ?_; (case X => k_in); (case hp => k_is); (case hc => exact rfl); (case hd => exact rfl); (case h6 => exact rfl); (case h5 => exact rfl); (case ht => k_is); (case htd => exact rfl); (case hcode => decide +kernel); (case hx => omega); (case hn => assumption); k_whole)
  | (refine' re_value ?X ?hp ?hc ?hd ?ht ?htd ?h6 ?h5 ?hcode ?hx ?hn ?_; (case X => k_in); (case hp => k_is); (case hc => exact rfl); (case hd => exact rfl); (case h6 => exact rfl); (case h5 => exact rfl); (case ht => k_is); (case htd => exact rfl); (case hcode => decide +kernel); (case hx => omega); (case hn => assumption); k_whole))))
theorem conv {w : World} {p : Program} {loose : List Str} {mean : ExcName → Option Value} {mg mb : Str → Option Value} (x : Str) (t : Tok) (v : Value) (b : Bool) (hl : x.length ≤ 200000) (hp : Plain x) :
    PurK PySem.Challenge.rw_pg0249_03.row.prog w (hd3.heap_39 w.params) p loose mean mg mb 5 50 84 [v, .str x t] [(Str.ofString "name", .bool b)] (fun _ => True) (fun _ => .str x t) := by
  k_fill
  intro dp un gd cn cs a ccd cl outer A₀ base h₀ L m s Q E B F X T hk hd hu _ hret
  refine wpAny_call ?_
  have N : News h₀ L s.heap [] := News.nil
  k_dflt (refine' code_sub (binds := [(Str.ofString "self", v), (Str.ofString "value", .str x t), (Str.ofString "name", .bool b)]) ?k1 ?k2 ?k3 N ?k5 ?kA ?kF ?kK ?k6 ?k7 ?k8 ?k9 ?kB ?_ ?c2 ?c3 ?c4 ?c5; walk_at "ent")
  intro g' L' h' tk' hk0 _ FG' F' N' B' X' T'
  replace hk0 : ∀ b o, s.heap.get? b = some o → g'.get? b = some o := fun b o e => hk0 b o e (by intro hb; cases hb)
  (try dsimp only)
  with_reducible show wpAny _ _ _ _ _ _
  k_fold
  k_steps
  all_goals try exact hret t _ _ (by k_asm) (fun b o e => Fr.keep (h₀ := g') (by assumption) b o (hk0 b o e))
end Mine
end
section
open PySem PySem.W PyProof.Rows
set_option Elab.async false
set_option maxRecDepth 100000
set_option maxHeartbeats 2000000
set_option pp.deepTerms true
set_option pp.proofs false
namespace Mine
def rep (x y z : Str) : Str := Txt.join z (Txt.split x y)
theorem split_sum (x y : Str) (k : Nat) (hy : (y.length == 0) = false) (hn : x.length ≤ 1000) (hk : k ≤ 1000) : ((Txt.split x y).map (·.length)).sum + (Txt.split x y).length * k ≤ 16777216 := by
  have hy' : 1 ≤ y.length := by
    have : y.length ≠ 0 := fun e => by rw [e] at hy; cases hy
    omega
  have h := split_weight x y hy'
  have a2 : (Txt.split x y).length * k ≤ 1001 * 1000 := Nat.mul_le_mul (by omega) hk
  omega
section
variable {prog : Program} {w : World} {A : Around} {E : Value → Shared → Prop} {s : Shared} {Q : Value → Shared → Prop}
theorem join_split {D : Addr} {x y X : Str} {t : Tok} {l : List (Str × Tok)} (hl : s.heap.IsList D (strValues l).toArray) (e : l.map (·.1) = Txt.split x y) (a : StrsAre (strValues l) (l.map (·.1)))
    (hy : (y.length == 0) = false) (hx : x.length ≤ 1000) (hX : X.length ≤ 1000)
    (h : ∀ t' k, Q (.str (rep x y X) t') { s with toks := k }) : wpAny (model prog w) A (call (.builtin "str.join") [.str X t, .ref D]) Q E s := by
  refine join_list hl (ys := Txt.split x y) (by rw [← e]; simpa using a) (split_sum x y _ hy hx hX) h
end
end Mine
namespace Mine
local macro_rules | `(tactic| walk_at "none at all") => `(tactic| fail)
local macro_rules | `(tactic| walk_at "ent") => `(tactic| ((case kA => exact rfl); (case kF => exact rfl); (case kK => assumption); (case k1 => k_asm); (case k2 => k_asm); (case k3 => k_asm); (case k5 => k_asm); (case k6 => k_is); (case k7 => k_is); (case k8 => ktr_room); (case kP => exact rfl); (case c5 => decide); (case kB => exact fun _ => locs rfl); (case c2 => exact rfl); (case c3 => exact rfl); (case c4 => exact rfl); k_whole))
local macro_rules | `(tactic| walk_at "call builtin:str.join") => `(tactic| (k_here; (with_reducible show wpAny _ _ (call (Value.builtin "str.join") [Value.str _ _, Value.ref _]) _ _ _); (refine join_split (by assumption) (by assumption) (by assumption) (by assumption) (by omega) (by omega) ?_); intro _ _))
local macro_rules | `(tactic| walk_at "subscriptTail Name Slice ref ref") => `(tactic| (k_here; (with_reducible show wpAny _ _ (subscriptTail _ _ (Value.ref _) (Value.ref _)) _ _ _); k_dflt (refine slice_tup (a := 2) (by k_asm) (by k_asm) (by k_mem) (by decide) (Nat.le_of_ble_eq_true rfl) (Nat.le_of_ble_eq_true rfl) ?_ (by with_unfolding_all rfl) (by intro _; with_unfolding_all rfl)); intro D' h' F' N' l1; (try k_lt l1); (try dsimp only [List.drop_succ_cons, List.drop_zero] at N')))
theorem replace1 {w : World} {p : Program} {loose : List Str} {mean : ExcName → Option Value} {mg mb : Str → Option Value} (x y1 X1 : Str) (t u1 v1 : Tok)
    (h1 : x.length ≤ 1000) (h2 : X1.length ≤ 1000) (hy1 : (y1.length == 0) = false) :
    Pur PySem.Challenge.rw_pg0249_03.row.prog w (hd3.heap_39 w.params) p loose mean mg mb 5 50 45 [.str x t, .str y1 u1, .str X1 v1] (fun _ => True) (fun t => .str (rep x y1 X1) t) := by
  k_fill
  intro dp un gd cn cs a ccd cl outer A₀ base h₀ L m s Q E B F X T hk hd hu _ hret
  refine wpAny_call ?_
  have N : News h₀ L s.heap [] := News.nil
  k_dflt (refine' code_rest (vs := [.str y1 u1, .str X1 v1]) (binds := fun D => [(Str.ofString "text", .str x t), (Str.ofString "pairs", .ref D)]) ?k1 ?k2 ?k3 N ?k5 ?kA ?kF ?kK ?k6 ?k7 ?k8 ?kP ?kB ?_ ?c2 ?c3 ?c4 ?c5; walk_at "ent")
  intro D' _ _ g' L' h' tk' hk0 l1 FG' F' N' B' X' T'
  replace hk0 : ∀ b o, s.heap.get? b = some o → g'.get? b = some o := fun b o e => hk0 b o e (by intro hb; cases hb)
  k_lt l1
  (try dsimp only)
  with_reducible show wpAny _ _ _ _ _ _
  k_fold
  k_steps
  all_goals try exact hret _ _ _ (by k_asm) (fun b o e => Fr.keep (h₀ := g') (by assumption) b o (hk0 b o e))
end Mine
end
section
open PySem PySem.W PyProof.Rows
set_option Elab.async false
set_option maxRecDepth 100000
set_option maxHeartbeats 2000000
set_option pp.deepTerms true
set_option pp.proofs false
namespace Mine
theorem startswith_le {x y : Str} (h : Txt.startswith x y = true) : y.length ≤ x.length := by
  unfold Txt.startswith at h
  have := (Bool.and_eq_true_iff.mp h).1
  have := of_decide_eq_true this
  omega
local macro_rules | `(tactic| walk_at "none at all") => `(tactic| fail)
local macro_rules | `(tactic| walk_at "none at all") => `(tactic| fail)
local macro_rules | `(tactic| walk_at "ent") => `(tactic| ((case kA => exact rfl); (case kF => exact rfl); (case kK => assumption); (case k1 => k_asm); (case k2 => k_asm); (case k3 => k_asm); (case k5 => k_asm); (case k6 => k_is); (case k7 => k_is); (case k8 => ktr_room); (case k9 => exact BindsTo.of_eq rfl); (case c5 => decide); (case kB => exact locs rfl); (case c2 => exact rfl); (case c3 => exact rfl); (case c4 => exact rfl); k_whole))
local macro_rules | `(tactic| walk_at "call builtin:str.split") => `(tactic| (k_here; (with_reducible show wpAny _ _ (call (Value.builtin "str.split") [Value.str _ _, Value.str _ _]) _ _ _); (rename PySem.Txt.split _ _ = _ => hq); (refine KSpl.split1 (by k_asm) (by k_asm) (by decide) ?_ (by rw [sizeLine_eq]; omega)); (intro D' l' h' k' e' a' F' N' l1); (try k_lt l1); (rw [hq] at e'); (kspl_open e'); (simp only [strValues, List.map_cons, List.map_nil] at N' a')))
local macro_rules | `(tactic| walk_at "call builtin:str.find") => `(tactic| (k_here; (with_reducible show wpAny _ _ (call (Value.builtin "str.find") [Value.str _ _, Value.str _ _, Value.int _ _, Value.int _ _]) _ _ _); (refine find4 (by omega) (by omega) (by omega) ?_); (try rw [F4_nil _ _ _ (by omega)])))
theorem F4_le (x y : Str) (lo hi : Nat) (h : 0 ≤ F4 x y lo hi) : F4 x y lo hi + y.length ≤ hi := by
  unfold F4 at h ⊢
  split
  · rename_i k r e
    have := (StrLaws.occ_spec x y lo hi 1 k (by rw [e]; exact .head _)).1
    omega
  · rename_i e
    rw [e] at h
    simp at h
theorem em3 {w : World} {p : Program} {loose : List Str} {mean : ExcName → Option Value} {mg mb : Str → Option Value} (want got word : Str) (t u : Tok)
    (hin : (Builtin.Str.occurrences want (Str.ofString "...") 0 want.length 1).isEmpty = false) (hsp : Txt.split want (Str.ofString "...") = [Str.ofString "", word, Str.ofString ""])
    (hl : want.length ≤ 100) (hg : got.length ≤ 1000) (hw : word.length = 1) :
    Pur PySem.Challenge.rw_pg0249_03.row.prog w (hd3.heap_39 w.params) p loose mean mg mb 5 50 52 [.str want t, .str got u] (fun _ => True) (fun _ => .bool (decide (0 ≤ F4 got word 0 got.length))) := by
  k_fill
  intro dp un gd cn cs a ccd cl outer A₀ base h₀ L m s Q E B F X T hk hd hu _ hret
  refine wpAny_call ?_
  have N : News h₀ L s.heap [] := News.nil
  have hF := F4_le got word 0 got.length
  k_dflt (refine' code_sub (binds := [(Str.ofString "want", .str want t), (Str.ofString "got", .str got u)]) ?k1 ?k2 ?k3 N ?k5 ?kA ?kF ?kK ?k6 ?k7 ?k8 ?k9 ?kB ?_ ?c2 ?c3 ?c4 ?c5; walk_at "ent"); 
  intro g' L' h' tk' hk0 _ FG' F' N' B' X' T'
  replace hk0 : ∀ b o, s.heap.get? b = some o → g'.get? b = some o := fun b o e => hk0 b o e (by intro hb; cases hb)
  (try dsimp only)
  with_reducible show wpAny _ _ _ _ _ _
  k_fold
  k_steps
  · (with_reducible rename F4 got word _ _ < 0 => a1)
    have a1 : F4 got word 0 got.length < 0 := a1
    rw [decide_eq_false (by omega)] at hret
    exact hret 0 _ _ (by k_asm) (fun b o e => Fr.keep (h₀ := g') (by assumption) b o (hk0 b o e))
  · exfalso
    (with_reducible rename F4 got (Str.ofString "") _ _ < 0 => a2)
    (with_reducible rename ¬ F4 got word _ _ < 0 => a1)
    have a1 : ¬ F4 got word 0 got.length < 0 := a1
    have a2 : F4 got (Str.ofString "") (F4 got word 0 got.length + (word.length : Nat)).toNat got.length < 0 := a2
    have := hF (by omega)
    rw [F4_nil _ _ _ (by omega)] at a2
    omega
  · (with_reducible rename ¬ F4 got word _ _ < 0 => a1)
    have a1 : ¬ F4 got word 0 got.length < 0 := a1
    rw [decide_eq_true (by omega)] at hret
    exact hret 0 _ _ (by k_asm) (fun b o e => Fr.keep (h₀ := g') (by assumption) b o (hk0 b o e))
end Mine
end
section
open PySem PySem.W PyProof.Rows
set_option Elab.async false
set_option maxRecDepth 100000
set_option maxHeartbeats 2000000
set_option pp.deepTerms true
set_option pp.proofs false
namespace Mine
local macro_rules | `(tactic| walk_at "none at all") => `(tactic| fail)
local macro_rules | `(tactic| walk_at "none at all") => `(tactic| fail)
local macro_rules | `(tactic| walk_at "none at all") => `(tactic| fail)
local macro_rules | `(tactic| walk_at "ent") => `(tactic| ((case kA => exact rfl); (case kF => exact rfl); (case kK => assumption); (case k1 => k_asm); (case k2 => k_asm); (case k3 => k_asm); (case k5 => k_asm); (case k6 => k_is); (case k7 => k_is); (case k8 => ktr_room); (case k9 => exact BindsTo.of_eq rfl); (case c5 => decide); (case kB => exact locs rfl); (case c2 => exact rfl); (case c3 => exact rfl); (case c4 => exact rfl); k_whole))
local macro_rules | `(tactic| walk_at "exec While") => `(tactic| (k_here; refine Hold.out ?_))
local macro_rules | `(tactic| walk_at "subscriptTail Name Name str int") => `(tactic| (k_here; (with_reducible show wpAny _ _ (subscriptTail _ _ (Value.str _ _) (Value.int _ _)) _ _ _); refine str_item (by omega) (by omega) (by omega) ?_ (by with_unfolding_all rfl) (by intro _; with_unfolding_all rfl)))
/-- w terms, one behind the other -/
def isT : Nat → List Nat → Prop
  | 0, l => l = []
  | _ + 1, [] => False
  | w + 1, c :: r => if c = 102 then isT (w + 2) r else isT w r
theorem part_item {x : Str} {pre dn rest post : List Nat} {c : Nat} (h : x.cps.toList = pre ++ (dn ++ c :: rest) ++ post) : x.cps.getD ((pre.length : Int) + (dn.length : Nat)).toNat 0 = c := by
  have e : ((pre.length : Int) + (dn.length : Nat)).toNat = pre.length + dn.length := by omega
  rw [e]
  have hx : x.cps.getD (pre.length + dn.length) 0 = x.cps.toList.getD (pre.length + dn.length) 0 := by
    by_cases hi : pre.length + dn.length < x.cps.size <;> simp [Array.getD, List.getD, hi]
  rw [hx, h]
  simp [List.getD]
theorem part_len {x : Str} {pre dn rest post : List Nat} (h : x.cps.toList = pre ++ (dn ++ rest) ++ post) : x.length = pre.length + dn.length + rest.length + post.length := by
  have : x.length = x.cps.toList.length := by simp [Str.length]
  rw [this, h]
  simp
  omega
theorem isT_zero {l : List Nat} (h : isT 0 l) : l = [] := by
  cases l <;> simp [isT] at h <;> rfl
theorem part_slice {x : Str} {pre q post : List Nat} (h : x.cps.toList = pre ++ q ++ post) : Txt.slice x (some (pre.length : Nat)) (some ((pre.length : Int) + (q.length : Nat))) = ⟨q.toArray⟩ := by
  have hx : x.length = pre.length + q.length + post.length := by
    have : x.length = x.cps.toList.length := by simp [Str.length]
    rw [this, h]
    simp
    omega
  have := slice_closesL (x := x) (i := (pre.length : Nat)) (j := (pre.length : Int) + (q.length : Nat)) (by omega) (by omega) (by omega)
  rw [eq_of_beq this]
  congr 1
  rw [h, show ((pre.length : Int)).toNat = pre.length from rfl, show ((pre.length : Int) + (q.length : Nat) - (pre.length : Nat)).toNat = q.length by omega]
  simp
theorem f_yes {c : Nat} (h : ((⟨#[c]⟩ : Str) == Str.ofString "f") = true) : c = 102 := by
  have := eq_of_beq h
  have e : (⟨#[c]⟩ : Str).cps.toList = (Str.ofString "f").cps.toList := by rw [this]
  exact List.head_eq_of_cons_eq e
theorem f_no {c : Nat} (h : ((⟨#[c]⟩ : Str) == Str.ofString "f") = false) : c ≠ 102 := by
  rintro rfl
  exact absurd h (by decide)
theorem part {w : World} {p : Program} {loose : List Str} {mean : ExcName → Option Value} {mg mb : Str → Option Value} (x : Str) (t u : Tok) (pre q post : List Nat) (hx : x.cps.toList = pre ++ q ++ post) (hq : isT 1 q) (hl : x.length ≤ 200000) :
    Pur PySem.Challenge.rw_pg0249_03.row.prog w (hd3.heap_39 w.params) p loose mean mg mb 5 50 201 [.str x t, .int (pre.length : Nat) u] (fun _ => True) (fun t => .str ⟨q.toArray⟩ t) := by
  k_fill
  intro dp un gd cn cs a ccd cl outer A₀ base h₀ L m s Q E B F X T hk hd hu _ hret
  refine wpAny_call ?_
  have N : News h₀ L s.heap [] := News.nil
  k_dflt (refine' code_sub (binds := [(Str.ofString "text", .str x t), (Str.ofString "start", .int (pre.length : Nat) u)]) ?k1 ?k2 ?k3 N ?k5 ?kA ?kF ?kK ?k6 ?k7 ?k8 ?k9 ?kB ?_ ?c2 ?c3 ?c4 ?c5; walk_at "ent"); 
  intro g' L' h' tk' hk0 _ FG' F' N' B' X' T'
  replace hk0 : ∀ b o, s.heap.get? b = some o → g'.get? b = some o := fun b o e => hk0 b o e (by intro hb; cases hb)
  (try dsimp only)
  with_reducible show wpAny _ _ _ _ _ _
  k_fold
  k_steps
  refine Hold.mk ?_
  (with_reducible rename Fr _ _ _ _ => F1)
  (with_reducible rename News _ _ _ _ => N1)
  refine While_inv2 (n₀ := q.length) (fun n m' news => ∃ dn rest w e1 e2, q = dn ++ rest ∧ isT w rest ∧ n = rest.length ∧ news = [] ∧ m' (Str.ofString "text") = some (.str x t) ∧ m' (Str.ofString "start") = some (.int (pre.length : Nat) u) ∧ m' (Str.ofString "end") = some (.int ((pre.length : Int) + (dn.length : Nat)) e1) ∧ m' (Str.ofString "wanted") = some (.int (w : Nat) e2)) F1 N1 ⟨[], q, 1, u, _, rfl, hq, rfl, rfl, rfl, rfl, rfl, rfl⟩ ?_
  clear F1 N1
  intro n m1 news1 h1 tk1 F1 N1 J1
  obtain ⟨dn, rest, wn, e1, e2, rfl, hT, rfl, rfl, j1, j2, j3, j4⟩ := J1
  obtain ⟨m1, rfl⟩ := see_eq j1
  replace j2 := see_in j2 (by decide)
  replace j3 := see_in j3 (by decide)
  replace j4 := see_in j4 (by decide)
  obtain ⟨m1, rfl⟩ := see_eq j2
  replace j3 := see_in j3 (by decide)
  replace j4 := see_in j4 (by decide)
  obtain ⟨m1, rfl⟩ := see_eq j3
  replace j4 := see_in j4 (by decide)
  obtain ⟨m1, rfl⟩ := see_eq j4
  clear j1 j2 j3 j4
  rcases wn with _ | wn
  · have hr : rest = [] := isT_zero hT
    subst hr
    rw [List.append_nil] at hx hret
    k_steps
    rw [part_slice hx]
    exact hret _ _ _ (by k_asm) (fun b o e => Fr.keep (h₀ := g') (by assumption) b o (hk0 b o e))
  · rcases rest with _ | ⟨c, r⟩
    · exact absurd hT id
    have hc := part_item hx
    have hlen := part_len hx
    simp only [List.length_cons] at hlen
    have ea : dn ++ c :: r = (dn ++ [c]) ++ r := by simp
    have el : (pre.length : Int) + (dn.length : Nat) + 1 = (pre.length : Int) + ((dn ++ [c]).length : Nat) := by
      simp
      omega
    k_steps
    · (with_reducible rename (_ == Str.ofString "f") = true => hf)
      rw [hc] at hf
      have hf := f_yes hf
      subst hf
      (with_reducible rename Fr _ _ _ _ => F9)
      (with_reducible rename News _ _ _ _ => N9)
      exact ⟨_, _, _, _, r.length, rfl, F9, N9, Nat.lt_succ_self _, dn ++ [102], r, wn + 2, _, _, ea, hT, rfl, rfl, rfl, rfl, (if_pos rfl).trans (congrArg (fun z => some (Value.int z _)) el), rfl⟩
    · (with_reducible rename (_ == Str.ofString "f") = false => hf)
      rw [hc] at hf
      have hf := f_no hf
      have hT : isT wn r := by
        have h' : (if c = 102 then isT (wn + 2) r else isT wn r) := hT
        rw [if_neg hf] at h'
        exact h'
      (with_reducible rename Fr _ _ _ _ => F9)
      (with_reducible rename News _ _ _ _ => N9)
      have e9 : ((wn + 1 : Nat) : Int) + -1 = (wn : Nat) := by omega
      exact ⟨_, _, _, _, r.length, rfl, F9, N9, Nat.lt_succ_self _, dn ++ [c], r, wn, _, _, ea, hT, rfl, rfl, rfl, rfl, (if_pos rfl).trans (congrArg (fun z => some (Value.int z _)) el), (if_neg (by decide)).trans ((if_pos rfl).trans (congrArg (fun z => some (Value.int z _)) e9))⟩
    · exfalso
      omega
end Mine
end
section
open PySem PySem.W PyProof.Rows
set_option Elab.async false
set_option maxRecDepth 100000
set_option maxHeartbeats 2000000
set_option pp.deepTerms true
set_option pp.proofs false
namespace Mine
local macro_rules | `(tactic| walk_at "none at all") => `(tactic| fail)
local macro_rules | `(tactic| walk_at "none at all") => `(tactic| fail)
local macro_rules | `(tactic| walk_at "none at all") => `(tactic| fail)
local macro_rules | `(tactic| walk_at "ent") => `(tactic| ((case kA => exact rfl); (case kF => exact rfl); (case kK => assumption); (case k1 => k_asm); (case k2 => k_asm); (case k3 => k_asm); (case k5 => k_asm); (case k6 => k_is); (case k7 => k_is); (case k8 => ktr_room); (case k9 => exact BindsTo.of_eq rfl); (case kB => exact rfl); (case kD => decide +kernel); (case c2 => exact rfl); (case c3 => exact rfl); (case c4 => exact rfl); k_whole))
local macro_rules | `(tactic| walk_at "eval ListComp") => `(tactic| (k_here; k_dflt (refine LCg.ListComp_U (F₀ := by k_asm) (by with_unfolding_all rfl) (by decide) (by rfl) (by decide) (by rfl) ?_)))
local macro_rules | `(tactic| walk_at "CompSrc") => `(tactic| (k_here; refine Hold.out ?_))
local macro_rules | `(tactic| walk_at "subscriptTail") => `(tactic| (k_here; (with_reducible show wpAny _ _ (subscriptTail _ _ (Value.str _ _) (Value.int _ _)) _ _ _); refine str_item (bit_ge _) (bit_lt _) (Nat.le_of_ble_eq_true rfl) ?_ (by with_unfolding_all rfl) (by intro _; with_unfolding_all rfl)))
def letT (n : Int) (k : Nat) : Str := Txt.item (Str.ofString "abxyz") (((n.fdiv 4).fdiv (5 ^ (0 + (k : Int)).toNat)).fmod 5)
def termOf (n : Int) : Str :=
  if n.fmod 2 ≠ 0 then (if (n.fdiv 2).fmod 2 ≠ 0 then Str.ofString "f" ++ (Str.ofString "f" ++ letT n 0) ++ letT n 1 ++ (Str.ofString "f" ++ letT n 2) ++ letT n 3 else Str.ofString "f" ++ (Str.ofString "f" ++ letT n 0) ++ letT n 1 ++ letT n 2)
  else (if (n.fdiv 2).fmod 2 ≠ 0 then Str.ofString "f" ++ letT n 0 ++ (Str.ofString "f" ++ letT n 1) ++ letT n 2 else Str.ofString "f" ++ letT n 0 ++ letT n 1)
theorem four_strs {ys : List Value} {a b c d : Str} (h : StrsAre ys [a, b, c, d]) : ∃ t1 t2 t3 t4, ys = [.str a t1, .str b t2, .str c t3, .str d t4] := by
  cases h with
  | cons _ t1 h => cases h with
    | cons _ t2 h => cases h with
      | cons _ t3 h => cases h with
        | cons _ t4 h =>
          cases h
          exact ⟨t1, t2, t3, t4, rfl⟩
theorem term {w : World} {p : Program} {loose : List Str} {mean : ExcName → Option Value} {mg mb : Str → Option Value} (n : Int) (t : Tok) (h0 : 0 ≤ n) (h9 : n < 2500) :
    Pur PySem.Challenge.rw_pg0249_03.row.prog w (hd3.heap_39 w.params) p loose mean mg mb 5 50 194 [.int n t] (fun _ => True) (fun t => .str (termOf n) t) := by
  generalize hr : termOf n = r
  unfold termOf at hr
  k_fill
  intro dp un gd cn cs a ccd cl outer A₀ base h₀ L m s Q E B F X T hk hd hu _ hret
  refine wpAny_call ?_
  have N : News h₀ L s.heap [] := News.nil
  k_dflt (refine' code_subC (binds := [(Str.ofString "number", .int n t)]) ?k1 ?k2 ?k3 N ?k5 ?kA ?kF ?kK ?k6 ?k7 ?k8 ?k9 ?kB ?kD ?_ ?c2 ?c3 ?c4; walk_at "ent")
  intro g' L' h' tk' cells' hk0 _ FG' F' N' Y' B' X' T'
  replace hk0 : ∀ b o, s.heap.get? b = some o → g'.get? b = some o := fun b o e => hk0 b o e (by intro hb; cases hb)
  k_cells Y'
  (try simp only [List.cons_append, List.nil_append] at N')
  (try dsimp only)
  with_reducible show wpAny _ _ _ _ _ _
  k_fold
  k_steps
  refine Hold.mk ?_
  (with_unfolding_all refine LCg.CompSrc.range (by rfl) (by k_asm) (by k_asm) (by assumption) (by decide) (by first | decide | rfl) (Nat.le_of_ble_eq_true rfl) ?_)
  intro gg
  refine restU_ind (n := 4) (J := fun i ys => StrsAre ys ((List.range i).map (letT n))) trivial ?_ ?_ _ 0 [] rfl .nil
  · intro i ys hi j v I oI C oC D m₂ h tk E' hv hC hx F N off ne
    obtain ⟨t9', hv9'⟩ := hv
    subst hv9'
    (try simp only [LCg.Off3, and_true] at off)
    (try dsimp only)
    rcases i with _ | _ | _ | _ | i
    · k_steps
      refine TurnEnd.intro (by k_asm) N (fun _ hp => hp) ?_
      exact strs_snoc (zs := (List.range 0).map (letT n)) j _ _
    · k_steps
      refine TurnEnd.intro (by k_asm) N (fun _ hp => hp) ?_
      exact strs_snoc (zs := (List.range 1).map (letT n)) j _ _
    · k_steps
      refine TurnEnd.intro (by k_asm) N (fun _ hp => hp) ?_
      exact strs_snoc (zs := (List.range 2).map (letT n)) j _ _
    · k_steps
      refine TurnEnd.intro (by k_asm) N (fun _ hp => hp) ?_
      exact strs_snoc (zs := (List.range 3).map (letT n)) j _ _
    · omega
  · intro ys j D9 h9 tk9 F9 N9 off9
    (try simp only [LCg.Off1, and_true] at off9)
    obtain ⟨t1, t2, t3, t4, rfl⟩ := four_strs (a := letT n 0) (b := letT n 1) (c := letT n 2) (d := letT n 3) j
    have hl1 : (letT n 0).length ≤ 1 := Nat.le_refl 1
    have hl2 : (letT n 1).length ≤ 1 := Nat.le_refl 1
    have hl3 : (letT n 2).length ≤ 1 := Nat.le_refl 1
    have hl4 : (letT n 3).length ≤ 1 := Nat.le_refl 1
    (try dsimp only)
    replace N9 : News g' L' h9 ((D9, listOf #[.str (letT n 0) t1, .str (letT n 1) t2, .str (letT n 2) t3, .str (letT n 3) t4] 4) :: _) := N9
    k_steps
    all_goals (first
      | (rw [if_pos (by assumption), if_pos (by assumption)] at hr; rw [hr]; exact hret _ _ _ (by k_asm) (fun b o e => Fr.keep (h₀ := g') (by k_asm) b o (hk0 b o e)))
      | (rw [if_pos (by assumption), if_neg (fun h => h (by assumption))] at hr; rw [hr]; exact hret _ _ _ (by k_asm) (fun b o e => Fr.keep (h₀ := g') (by k_asm) b o (hk0 b o e)))
      | (rw [if_neg (fun h => h (by assumption)), if_pos (by assumption)] at hr; rw [hr]; exact hret _ _ _ (by k_asm) (fun b o e => Fr.keep (h₀ := g') (by k_asm) b o (hk0 b o e)))
      | (rw [if_neg (fun h => h (by assumption)), if_neg (fun h => h (by assumption))] at hr; rw [hr]; exact hret _ _ _ (by k_asm) (fun b o e => Fr.keep (h₀ := g') (by k_asm) b o (hk0 b o e))))
end Mine
end
section
open PySem PySem.W PyProof.Rows
set_option Elab.async false
set_option maxRecDepth 100000
set_option maxHeartbeats 2000000
set_option pp.deepTerms true
set_option pp.proofs false
namespace Mine
local macro_rules | `(tactic| walk_at "none at all") => `(tactic| fail)
local macro_rules | `(tactic| walk_at "none at all") => `(tactic| fail)
local macro_rules | `(tactic| walk_at "none at all") => `(tactic| fail)
local macro_rules | `(tactic| walk_at "ent") => `(tactic| ((case kA => exact rfl); (case kF => exact rfl); (case kK => assumption); (case k1 => k_asm); (case k2 => k_asm); (case k3 => k_asm); (case k5 => k_asm); (case k6 => k_is); (case k7 => k_is); (case k8 => ktr_room); (case k9 => exact BindsTo.of_eq rfl); (case kB => exact locs rfl); (case c5 => decide); (case c2 => exact rfl); (case c3 => exact rfl); (case c4 => exact rfl); k_whole))
local macro_rules | `(tactic| walk_at "call ref") => `(tactic| (k_here; (with_reducible show wpAny _ _ (call (Value.ref 84) _ _) _ _ _); k_dflt (refine' conv _ _ _ _ ?hl ?hp _ _ _ _ _ _ _ _ _ _ _ _ _ _ _ _ _ ?B ?F ?X ?T ?kK ?kd ?ku trivial ?_; (case B => k_asm); (case F => k_asm); (case X => k_asm); (case T => k_asm); (case kK => first | exact rfl | assumption); (case kd => ktr_room); (case ku => ktr_units); (case hl => omega); (case hp => assumption); k_whole); (with_reducible rename News _ _ _ _ => N9'); intro t9 h9 tk9 F9 k9; (replace N9' := news_kept N9' k9); clear k9; (try dsimp only); (try k_fold)))
local macro_rules | `(tactic| walk_at "call builtin:str.lower") => `(tactic| (k_here; (with_reducible show wpAny _ _ (call (Value.builtin "str.lower") [Value.str _ _]) _ _ _); (refine SCL.lower (by rw [sizeLine_eq]; omega) ?_); intro _))
local macro_rules | `(tactic| walk_at "eval ListComp") => `(tactic| (k_here; k_dflt (refine LCt.ListComp_T (F₀ := by k_asm) (by with_unfolding_all rfl) (by decide) (by rfl) (by decide) (by rfl) ?_)))
local macro_rules | `(tactic| walk_at "subscriptTail") => `(tactic| (k_here; (with_reducible show wpAny _ _ (subscriptTail _ _ (Value.ref _) (Value.int _ _)) _ _ _); k_dflt (refine' item_tupleT ?t ?a ?b ?c ?d ?_; (case t => assumption); (case a => decide); (case b => decide); (case c => rfl); (case d => rfl); k_whole)))
theorem items {w : World} {p : Program} {loose : List Str} {mean : ExcName → Option Value} {mg mb : Str → Option Value} (dp un : Nat) (gd : Option (List Code)) (cn : Str) (cs : Scope) (a : Addr) (ccd : Value) (cl : List (Str × Addr)) (outer : List Env) (A₀ : Around) (base h₀ : Heap) (L : Addr) (m : Str → Option Value) (s : Shared) (Q E : Value → Shared → Prop)
    (x dx l : Addr) (tkd : Tok) (hsh : Int) (vs : List Value) (n : Nat)
    (B : Below A₀ base outer h₀) (F : Fr h₀ L s.heap m) (X : (hd3.heap_39 w.params).In h₀) (T : Top p loose mean mg mb h₀) (hk : cs.kind = .function) (hd : dp + 20 < recursionLimit) (hu : un + 200 < cLine)
    (N : News h₀ L s.heap (tab3 185 x dx l tkd hsh vs n)) (hv : vs.length ≤ 1000) (h1 : x < l) (h2 : dx < l) (h3 : dx < x)
    (hret : ∀ D n' h' tk', Fr h₀ L h' m → News h₀ L h' ((D, listOf (List.toArray vs) n') :: tab3 185 x dx l tkd hsh vs n) → (∀ b o, s.heap.get? b = some o → h'.get? b = some o) → (∀ b o, s.heap.get? b = some o → @LT.lt Nat _ b D) → Q (.ref D) { s with heap := h', toks := tk' }) :
    wpAny (model PySem.Challenge.rw_pg0249_03.row.prog w) (ktrTop dp un gd cn cs L a ccd cl outer) (call (.ref 149) [.ref x]) Q E s := by
  revert X; k_fill; intro X
  refine wpAny_call ?_
  k_dflt (refine' code_sub (binds := [(Str.ofString "self", .ref x)]) ?k1 ?k2 ?k3 N ?k5 ?kA ?kF ?kK ?k6 ?k7 ?k8 ?k9 ?kB ?_ ?c2 ?c3 ?c4 ?c5; walk_at "ent")
  intro g' L' h' tk' hk0 l2 FG' F' N' B' X' T'
  replace hk0 : ∀ b o, b ≠ l → b ≠ x → b ≠ dx → s.heap.get? b = some o → g'.get? b = some o := fun b o n1 n2 n3 e => hk0 b o e (by simp only [List.map_cons, List.map_nil, List.mem_cons, List.not_mem_nil, or_false, not_or]; exact ⟨n1, n2, n3⟩)
  k_lt l2
  replace h1 := ltN h1
  replace h2 := ltN h2
  replace h3 := ltN h3
  (try dsimp only)
  with_reducible show wpAny _ _ _ _ _ _
  k_fold
  k_steps
  (with_reducible rename Fr h₀ L _ m => kF)
  (with_reducible rename Fr g' _ _ _ => gF)
  (with_reducible rename News h₀ L _ (_ :: _) => kN)
  rw [slicePick_all] at kN
  refine hret _ _ _ _ kF kN (fun b o e => ?_) (fun b o e => ?_)
  · refine keep_sub N kN (fun p hp hb => .tail _ hp) (fun nb2 e => gF.keep b o ?_) e
    simp only [List.map_cons, List.map_nil, List.mem_cons, List.not_mem_nil, or_false, not_or] at nb2
    exact hk0 b o nb2.1 nb2.2.1 nb2.2.2 e
  · refine Nat.lt_succ_of_lt (Heap.lt_size (o := o) ?_)
    refine keep_sub2 N N' (fun p hp hb => hp) (fun nb2 e => F'.keep b o ?_) e
    simp only [List.map_cons, List.map_nil, List.mem_cons, List.not_mem_nil, or_false, not_or] at nb2
    exact hk0 b o nb2.1 nb2.2.1 nb2.2.2 e
end Mine
end
section
open PySem PySem.W PyProof.Rows
set_option Elab.async false
set_option maxRecDepth 100000
set_option maxHeartbeats 2000000
set_option pp.deepTerms true
set_option pp.proofs false
namespace Mine
local macro_rules | `(tactic| walk_at "ent") => `(tactic| ((case kA => exact rfl); (case kF => exact rfl); (case kK => assumption); (case k1 => k_asm); (case k2 => k_asm); (case k3 => k_asm); (case k5 => k_asm); (case k6 => k_is); (case k7 => k_is); (case k8 => ktr_room); (case k9 => first | exact BindsTo.of_eq rfl | (refine' kp_binds ?kx ?ke; (case kx => k_in); (case ke => exact fun _ => rfl))); (case kB => exact locs rfl); (case c5 => decide); (case c2 => exact rfl); (case c3 => exact rfl); (case c4 => exact rfl); k_whole))
local macro_rules | `(tactic| walk_at "call ref") => `(tactic| (k_here; (with_reducible show wpAny _ _ (call (Value.ref 84) _ _) _ _ _); k_dflt (refine' conv _ _ _ _ ?hl ?hp _ _ _ _ _ _ _ _ _ _ _ _ _ _ _ _ _ ?B ?F ?X ?T ?kK ?kd ?ku trivial ?_; (case B => k_asm); (case F => k_asm); (case X => k_asm); (case T => k_asm); (case kK => first | exact rfl | assumption); (case kd => ktr_room); (case ku => ktr_units); (case hl => omega); (case hp => assumption); k_whole); (with_reducible rename News _ _ _ _ => N9'); intro t9 h9 tk9 F9 k9; (replace N9' := news_kept N9' k9); clear k9; (try dsimp only); (try k_fold)))
local macro_rules | `(tactic| walk_at "call builtin:str.lower") => `(tactic| (k_here; (with_reducible show wpAny _ _ (call (Value.builtin "str.lower") [Value.str _ _]) _ _ _); (refine SCL.lower (by rw [sizeLine_eq]; omega) ?_); intro _))
local macro_rules | `(tactic| walk_at "eval ListComp") => `(tactic| (k_here; k_dflt (refine LCt.ListComp_T (F₀ := by k_asm) (by with_unfolding_all rfl) (by decide) (by rfl) (by decide) (by rfl) ?_)))
local macro_rules | `(tactic| walk_at "subscriptTail") => `(tactic| (k_here; (with_reducible show wpAny _ _ (subscriptTail _ _ (Value.ref _) (Value.int _ _)) _ _ _); k_dflt (refine' item_tupleT ?t ?a ?b ?c ?d ?_; (case t => assumption); (case a => decide); (case b => decide); (case c => rfl); (case d => rfl); k_whole)))
local macro_rules | `(tactic| walk_at "exec For Tuple Attribute cons nil") => `(tactic| (k_here; refine Hold.out ?_))
local macro_rules | `(tactic| walk_at "exec For") => `(tactic| (k_here; refine Hold.out ?_))
local macro_rules | `(tactic| walk_at "pyIter ref") => `(tactic| (k_here; refine Hold.out ?_))
local macro_rules | `(tactic| walk_at "UnrEndW") => `(tactic| (refine Hold.out ?_))
theorem endZ {h₀ h' : Heap} {L : Addr} {its all : List (Addr × Obj)} {rest : (Str → Option Value) → List (Addr × Obj) → Prop} {s₁ : Shared} {tk : Nat} {m' : Str → Option Value} (F : Fr h₀ L h' m') (N : News h₀ L h' all) (news' : List (Addr × Obj)) (sub : ∀ p ∈ its ++ news', p ∈ all) (off : ∀ p ∈ news', ∀ q ∈ its, p.1 ≠ q.1) (r : rest m' news') : UnrEndW h₀ L s₁ its rest { s₁ with heap := h', toks := tk } :=
  ⟨h', tk, m', news', rfl, F, fun p hp => N p (sub p hp), off, r⟩
def getOf (rows : List (Str × Str)) (nm d : Str) : Str := match rows.find? fun r => Txt.lower r.1 == Txt.lower nm with
  | some r => r.2
  | none => d
theorem getOf_hit {rows : List (Str × Str)} {nm d k v : Str} {i : Nat} (e : rows[i]? = some (k, v)) (h : ∀ r ∈ rows.take i, (Txt.lower r.1 == Txt.lower nm) = false) (hk : (Txt.lower k == Txt.lower nm) = true) : getOf rows nm d = v := by
  unfold getOf
  obtain ⟨hi, he⟩ := List.getElem?_eq_some_iff.mp e
  have : rows = rows.take i ++ (k, v) :: rows.drop (i + 1) := by rw [← he, ← List.drop_eq_getElem_cons hi, List.take_append_drop]
  rw [this, List.find?_append, List.find?_eq_none.mpr (fun r hr => by simp [h r hr])]
  simp [List.find?_cons, hk]
theorem getOf_miss {rows : List (Str × Str)} {nm d : Str} (h : ∀ r ∈ rows, (Txt.lower r.1 == Txt.lower nm) = false) : getOf rows nm d = d := by
  unfold getOf
  rw [List.find?_eq_none.mpr (fun r hr => by simp [h r hr])]
theorem get {w : World} {p : Program} {loose : List Str} {mean : ExcName → Option Value} {mg mb : Str → Option Value} (dp un : Nat) (gd : Option (List Code)) (cn : Str) (cs : Scope) (a : Addr) (ccd : Value) (cl : List (Str × Addr)) (outer : List Env) (A₀ : Around) (base h₀ : Heap) (L : Addr) (m : Str → Option Value) (s : Shared) (Q E : Value → Shared → Prop)
    (x dx l : Addr) (tkd : Tok) (hsh : Int) (vs : List Value) (n : Nat) (rows : List (Str × Str)) (nm d : Str) (t1 t2 : Tok)
    (B : Below A₀ base outer h₀) (F : Fr h₀ L s.heap m) (X : (hd3.heap_39 w.params).In h₀) (T : Top p loose mean mg mb h₀) (hk : cs.kind = .function) (hd : dp + 20 < recursionLimit) (hu : un + 200 < cLine)
    (N : News h₀ L s.heap (tab3 185 x dx l tkd hsh vs n)) (R : RowsAt s.heap vs rows) (hv : vs.length ≤ 1000) (h1 : x < l) (h2 : dx < l) (h3 : dx < x) (hn1 : nm.length ≤ 1000) (hn2 : (Txt.lower nm).length ≤ 1000) (hn3 : Plain (Txt.lower nm)) (hr : ∀ r ∈ rows, r.1.length ≤ 1000)
    (hret : ∀ t h' tk', Fr h₀ L h' m → News h₀ L h' (tab3 185 x dx l tkd hsh vs n) → (∀ b o, s.heap.get? b = some o → h'.get? b = some o) → Q (.str (getOf rows nm d) t) { s with heap := h', toks := tk' }) :
    wpAny (model PySem.Challenge.rw_pg0249_03.row.prog w) (ktrTop dp un gd cn cs L a ccd cl outer) (call (.ref 132) [.ref x, .str nm t1, .str d t2]) Q E s := by
  revert X; k_fill; intro X
  refine wpAny_call ?_
  k_dflt (refine' code_sub (binds := [(Str.ofString "self", .ref x), (Str.ofString "name", .str nm t1), (Str.ofString "default", .str d t2)]) ?k1 ?k2 ?k3 N ?k5 ?kA ?kF ?kK ?k6 ?k7 ?k8 ?k9 ?kB ?_ ?c2 ?c3 ?c4 ?c5; walk_at "ent")
  intro g' L' h' tk' hk0 l2 FG' F' N' B' X' T'
  replace hk0 : ∀ b o, b ≠ l → b ≠ x → b ≠ dx → s.heap.get? b = some o → g'.get? b = some o := fun b o n1 n2 n3 e => hk0 b o e (by simp only [List.map_cons, List.map_nil, List.mem_cons, List.not_mem_nil, or_false, not_or]; exact ⟨n1, n2, n3⟩)
  k_lt l2
  replace h1 := ltN h1
  replace h2 := ltN h2
  replace h3 := ltN h3
  have Nsub := N
  replace N' := N'
  (try dsimp only)
  with_reducible show wpAny _ _ _ _ _ _
  k_fold
  k_steps
  refine Hold.mk ?_
  (with_reducible rename Fr g' _ _ _ => F1)
  (with_reducible rename News g' _ _ _ => N1)
  (with_unfolding_all refine' For_turns F1 ?_; k_whole)
  k_steps
  refine Hold.mk ?_
  (with_reducible rename Fr g' _ _ _ => F1)
  (with_reducible rename News g' _ _ _ => N1)
  have Rg := rows_ground R Nsub rfl hk0
  (with_unfolding_all refine iter_listTurns (lo := listOf vs.toArray n) (vs := vs) (by rfl) F1 N1 (by k_mem) (by rfl) (by rfl) ?_)
  clear F1 N1
  intro I hI
  have hI' : ∀ p ∈ tab3 185 x dx l tkd hsh vs n, ∀ o : Obj, ∀ q ∈ [(I, o)], p.1 ≠ q.1 := fun p hp o q hq => by
    rw [List.mem_singleton.mp hq]
    exact Nat.ne_of_lt (hI p hp)
  refine valRest_ind (J := fun i m' news => (∀ r ∈ rows.take i, (Txt.lower r.1 == Txt.lower nm) = false) ∧ news = tab3 185 x dx l tkd hsh vs n ∧ m' (Str.ofString "self") = some (.ref x) ∧ m' (Str.ofString "name") = some (.str (Txt.lower nm) tk') ∧ m' (Str.ofString "default") = some (.str d t2)) ?_ ?_ vs.length 0 _ _ rfl ⟨(fun r h => nomatch h), rfl, rfl, rfl, rfl⟩
  · intro i v m1 news1 e1 j h9 tk9 F9
    obtain ⟨j1, rfl, jm1, jm2, jm3⟩ := j
    obtain ⟨T9, k9, v9, u1, u2, rfl, er, hT⟩ := Rg.get e1
    have hT2 := hT.keeps F9.keep
    have hkl : k9.length ≤ 1000 := hr _ (List.mem_of_getElem? er)
    obtain ⟨m1, rfl⟩ := see_eq jm1
    replace jm2 := see_in jm2 (by decide)
    replace jm3 := see_in jm3 (by decide)
    obtain ⟨m1, rfl⟩ := see_eq jm2
    replace jm3 := see_in jm3 (by decide)
    obtain ⟨m1, rfl⟩ := see_eq jm3
    clear jm1 jm2 jm3
    intro o9 ho9 N9
    (try simp only [List.cons_append, List.nil_append] at N9)
    k_steps
    · (with_reducible rename (_ == _) = true => hq)
      rw [getOf_hit er j1 hq] at hret
      (with_reducible rename Fr h₀ L _ m => kF)
      (with_reducible rename Fr g' _ _ _ => gF)
      (with_reducible rename News h₀ L _ _ => kN)
      refine hret _ _ _ kF (cb_drop kN fun p hp => by first | exact hp | exact .tail _ hp) fun b o e => ?_
      refine keep_sub2 Nsub kN (fun p hp hb => by first | exact hp | exact .tail _ hp) (fun nb2 e => gF.keep b o ?_) e
      simp only [List.map_cons, List.map_nil, List.mem_cons, List.not_mem_nil, or_false, not_or] at nb2
      exact hk0 b o nb2.1 nb2.2.1 nb2.2.2 e
    · refine Hold.mk ?_
      (with_reducible rename (_ == _) = false => hq)
      (with_reducible rename Fr g' _ _ _ => gF)
      (with_reducible rename News g' _ _ _ => gN)
      refine endZ gF gN (tab3 185 x dx l tkd hsh vs n) (fun p hp => hp) (hI' · · _) ⟨by k_subL, ?_, rfl, ?_, ?_, ?_⟩
      · intro r hr9
        rw [List.take_add_one, er] at hr9
        rcases List.mem_append.mp hr9 with hr9 | hr9
        · exact j1 r hr9
        · simp at hr9
          rw [hr9]
          exact hq
      · exact (if_neg (by decide)).trans ((if_neg (by decide)).trans (if_pos rfl))
      · exact (if_neg (by decide)).trans ((if_neg (by decide)).trans ((if_neg (by decide)).trans (if_pos rfl)))
      · exact (if_neg (by decide)).trans ((if_neg (by decide)).trans ((if_neg (by decide)).trans ((if_neg (by decide)).trans (if_pos rfl))))
  · intro m1 news1 j h9 tk9 F9 N9
    obtain ⟨j1, rfl, jm1, jm2, jm3⟩ := j
    obtain ⟨m1, rfl⟩ := see_eq jm3
    (try dsimp only)
    k_steps
    rw [R.length, List.take_length] at j1
    rw [getOf_miss j1] at hret
    revert hret
    intro hret
    (with_reducible rename Fr h₀ L _ m => kF)
    (with_reducible rename Fr g' _ _ _ => gF)
    (with_reducible rename News h₀ L _ _ => kN)
    refine hret _ _ _ kF (cb_drop kN fun p hp => hp) fun b o e => ?_
    refine keep_sub2 Nsub kN (fun p hp hb => hp) (fun nb2 e => gF.keep b o ?_) e
    simp only [List.map_cons, List.map_nil, List.mem_cons, List.not_mem_nil, or_false, not_or] at nb2
    exact hk0 b o nb2.1 nb2.2.1 nb2.2.2 e
end Mine
end
section
open PySem PySem.W PyProof.Rows
set_option Elab.async false
set_option maxRecDepth 100000
set_option maxHeartbeats 2000000
set_option pp.deepTerms true
set_option pp.proofs false
namespace Mine
local macro_rules | `(tactic| walk_at "none at all") => `(tactic| fail)
local macro_rules | `(tactic| walk_at "none at all") => `(tactic| fail)
local macro_rules | `(tactic| walk_at "none at all") => `(tactic| fail)
local macro_rules | `(tactic| walk_at "none at all") => `(tactic| fail)
local macro_rules | `(tactic| walk_at "none at all") => `(tactic| fail)
local macro_rules | `(tactic| walk_at "ent") => `(tactic| ((case kA => exact rfl); (case kF => exact rfl); (case kK => assumption); (case k1 => k_asm); (case k2 => k_asm); (case k3 => k_asm); (case k5 => k_asm); (case k6 => k_is); (case k7 => k_is); (case k8 => ktr_room); (case k9 => exact BindsTo.of_eq rfl); (case kB => exact rfl); (case kD => decide +kernel); (case c2 => exact rfl); (case c3 => exact rfl); (case c4 => exact rfl); k_whole))
local macro_rules | `(tactic| walk_at "call ref") => `(tactic| (k_here; (with_reducible show wpAny _ _ (call (Value.ref 84) _ _) _ _ _); k_dflt (refine' conv _ _ _ _ ?hl ?hp _ _ _ _ _ _ _ _ _ _ _ _ _ _ _ _ _ ?B ?F ?X ?T ?kK ?kd ?ku trivial ?_; (case B => k_asm); (case F => k_asm); (case X => k_asm); (case T => k_asm); (case kK => first | exact rfl | assumption); (case kd => ktr_room); (case ku => ktr_units); (case hl => omega); (case hp => assumption); k_whole); (with_reducible rename News _ _ _ _ => N9'); intro t9 h9 tk9 F9 k9; (replace N9' := news_kept N9' k9); clear k9; (try dsimp only); (try k_fold)))
local macro_rules | `(tactic| walk_at "call builtin:str.lower") => `(tactic| (k_here; (with_reducible show wpAny _ _ (call (Value.builtin "str.lower") [Value.str _ _]) _ _ _); (refine SCL.lower (by rw [sizeLine_eq]; omega) ?_); intro _))
local macro_rules | `(tactic| walk_at "eval ListComp") => `(tactic| (k_here; k_dflt (refine LCt.ListComp_T (F₀ := by k_asm) (by with_unfolding_all rfl) (by decide) (by rfl) (by decide) (by rfl) ?_)))
local macro_rules | `(tactic| walk_at "subscriptTail") => `(tactic| (k_here; (with_reducible show wpAny _ _ (subscriptTail _ _ (Value.ref _) (Value.int _ _)) _ _ _); k_dflt (refine' item_tupleT ?t ?a ?b ?c ?d ?_; (case t => assumption); (case a => decide); (case b => decide); (case c => rfl); (case d => rfl); k_whole)))
theorem delitem {w : World} {p : Program} {loose : List Str} {mean : ExcName → Option Value} {mg mb : Str → Option Value} (dp un : Nat) (gd : Option (List Code)) (cn : Str) (cs : Scope) (a : Addr) (ccd : Value) (cl : List (Str × Addr)) (outer : List Env) (A₀ : Around) (base h₀ : Heap) (L : Addr) (m : Str → Option Value) (s : Shared) (Q E : Value → Shared → Prop)
    (x dx l : Addr) (tkd : Tok) (hsh : Int) (vs : List Value) (n : Nat) (rows : List (Str × Str)) (nm : Str) (t1 : Tok)
    (B : Below A₀ base outer h₀) (F : Fr h₀ L s.heap m) (X : (hd3.heap_39 w.params).In h₀) (T : Top p loose mean mg mb h₀) (hk : cs.kind = .function) (hd : dp + 20 < recursionLimit) (hu : un + 200 < cLine)
    (N : News h₀ L s.heap (tab3 185 x dx l tkd hsh vs n)) (R : RowsAt s.heap vs rows) (hv : vs.length ≤ 1000) (h1 : x < l) (h2 : dx < l) (h3 : dx < x) (hn1 : nm.length ≤ 1000) (hn2 : (Txt.lower nm).length ≤ 1000) (hn3 : Plain (Txt.lower nm)) (hr : ∀ r ∈ rows, r.1.length ≤ 1000)
    (hret : ∀ ys n' h' tk', Fr h₀ L h' m → News h₀ L h' (tab3 185 x dx l tkd hsh ys n') → (∀ g, RowsAt g vs rows → RowsAt g ys (rows.filter fun r => !(Txt.lower r.1 == Txt.lower nm))) → (∀ b o, b ≠ l → s.heap.get? b = some o → h'.get? b = some o) → Q .none { s with heap := h', toks := tk' }) :
    wpAny (model PySem.Challenge.rw_pg0249_03.row.prog w) (ktrTop dp un gd cn cs L a ccd cl outer) (call (.ref 103) [.ref x, .str nm t1]) Q E s := by
  revert X; k_fill; intro X
  refine wpAny_call ?_
  k_dflt (refine' code_subC (binds := [(Str.ofString "self", .ref x), (Str.ofString "name", .str nm t1)]) ?k1 ?k2 ?k3 N ?k5 ?kA ?kF ?kK ?k6 ?k7 ?k8 ?k9 ?kB ?kD ?_ ?c2 ?c3 ?c4; walk_at "ent")
  intro g' L' h' tk' cells' hk0 l2 FG' F' N' Y' B' X' T'
  replace hk0 : ∀ b o, b ≠ l → b ≠ x → b ≠ dx → s.heap.get? b = some o → g'.get? b = some o := fun b o n1 n2 n3 e => hk0 b o e (by simp only [List.map_cons, List.map_nil, List.mem_cons, List.not_mem_nil, or_false, not_or]; exact ⟨n1, n2, n3⟩)
  k_lt l2
  replace h1 := ltN h1
  replace h2 := ltN h2
  replace h3 := ltN h3
  have Nsub := N
  k_cells Y'
  (try simp only [List.cons_append, List.nil_append] at N')
  (try dsimp only)
  with_reducible show wpAny _ _ _ _ _ _
  k_fold
  k_steps
  with_unfolding_all refine LCt.CompSrcT.ledger (by rfl) (by k_asm) (by k_asm) (by k_mem) (by rw [sizeLine_eq]; simp only [List.size_toArray]; omega) ?_
  intro gg
  have Rg := rows_ground R Nsub rfl hk0
  refine restT_ind (n := vs.length) (J := fun i ys => ∀ g, RowsAt g vs rows → RowsAt g ys ((rows.take i).filter fun r => !(Txt.lower r.1 == Txt.lower nm))) (Or.inr ⟨_, by k_mem, rfl, _, rfl⟩) ?_ ?_ _ 0 [] (by simp) (fun _ _ => .nil)
  · intro i ys hi j v I oI C oC D m₂ h tk E' hv hC hx F N off ne
    have hv' : vs[i]? = some v := by simpa using hv
    obtain ⟨T, k, xx, t, u, rfl, hrow, hT⟩ := Rg.get hv'
    have hT2 := hT.keeps F.keep
    have hkl : k.length ≤ 1000 := hr _ (List.mem_of_getElem? hrow)
    (try simp only [LCg.Off3, and_true] at off)
    (try dsimp only)
    k_steps
    · (with_reducible rename (_ != _) = true => hq)
      refine TurnEnd.intro (by k_asm) N (fun _ hp => hp) ?_
      rw [filt_yes hrow hq]
      intro g Rg2
      obtain ⟨T9, k9, x9, t9, u9, e9, r9, hT9⟩ := Rg2.get hv'
      rw [hrow] at r9
      cases r9
      cases e9
      exact (j g Rg2).snoc hT9
    · (with_reducible rename (_ != _) = false => hq)
      refine TurnEnd.intro (by k_asm) N (fun _ hp => hp) ?_
      rw [filt_no hrow hq]
      exact j
  · intro ys j
    rw [R.length, List.take_length] at j
    intro D9 h9 tk9 F9 N9 off9
    (try simp only [LCg.Off1, and_true] at off9)
    (try dsimp only)
    k_steps
    have hyl : ys.length ≤ vs.length := by
      rw [(j _ R).length, R.length]
      exact List.length_filter_le _ _
    (with_reducible rename Fr g' _ _ _ => F8)
    (with_reducible rename News g' _ _ _ => N8)
    have o1 : ∀ oc : Obj, ∀ p ∈ [(D9, LCg.lst ys), (L' + 1, oc)], p.1 ≠ l := fun oc p hp => by
      rcases List.mem_cons.mp hp with rfl | hp
      · exact Ne.symm off9.2.1
      rcases List.mem_cons.mp hp with rfl | hp
      · exact Nat.ne_of_gt (Nat.lt_succ_of_lt l2.1)
      · cases hp
    have o2 : ∀ p ∈ [(x, instObj 185 dx), (dx, hdrDict tkd hsh l)], p.1 ≠ l := fun p hp => by
      rcases List.mem_cons.mp hp with rfl | hp
      · exact Nat.ne_of_lt h1
      rcases List.mem_cons.mp hp with rfl | hp
      · exact Nat.ne_of_lt h2
      · cases hp
    refine setAll (pre := [(D9, LCg.lst ys), (L' + 1, _)]) (post := [(x, instObj 185 dx), (dx, hdrDict tkd hsh l)]) (xs := vs) (ys := ys) F8 N8 (.head _) (o1 _) o2 off9.2.1 (by omega) ?_
    clear F8 N8
    intro h8 n8 F8 N8
    (try simp only [List.cons_append, List.nil_append] at N8)
    k_steps
    (with_reducible rename Fr h₀ L _ m => kF)
    (with_reducible rename News h₀ L _ (_ :: _) => kN)
    have kN2 : News h₀ L _ (tab3 185 x dx l tkd hsh ys n8) := cb_drop kN (by
      intro p hp
      first
        | exact hp
        | exact .tail _ hp
        | exact .tail _ (.tail _ hp))
    refine hret ys n8 _ _ kF kN2 j fun b o nb e => ?_
    refine keep_sub2 Nsub kN2 (fun p hp hb => ?_) (fun nb2 e => F8.keep b o ?_) e
    · rcases List.mem_cons.mp hp with rfl | hp
      · exact absurd hb.symm nb
      · exact .tail _ hp
    · simp only [List.map_cons, List.map_nil, List.mem_cons, List.not_mem_nil, or_false, not_or] at nb2
      exact hk0 b o nb2.1 nb2.2.1 nb2.2.2 e
end Mine
end
section
open PySem PySem.W PyProof.Rows
set_option Elab.async false
set_option maxRecDepth 100000
set_option maxHeartbeats 2000000
set_option pp.deepTerms true
set_option pp.proofs false
namespace Mine
local macro_rules | `(tactic| walk_at "none at all") => `(tactic| fail)
local macro_rules | `(tactic| walk_at "none at all") => `(tactic| fail)
local macro_rules | `(tactic| walk_at "none at all") => `(tactic| fail)
local macro_rules | `(tactic| walk_at "ent") => `(tactic| ((case kA => exact rfl); (case kF => exact rfl); (case kK => assumption); (case k1 => k_asm); (case k2 => k_asm); (case k3 => k_asm); (case k5 => k_asm); (case k6 => k_is); (case k7 => k_is); (case k8 => ktr_room); (case k9 => exact BindsTo.of_eq rfl); (case kB => exact locs rfl); (case c5 => decide); (case c2 => exact rfl); (case c3 => exact rfl); (case c4 => exact rfl); k_whole))
local macro_rules | `(tactic| walk_at "call ref") => `(tactic| (k_here; (with_reducible show wpAny _ _ (call (Value.ref 84) _ _) _ _ _); k_dflt (refine' conv _ _ _ _ ?hl ?hp _ _ _ _ _ _ _ _ _ _ _ _ _ _ _ _ _ ?B ?F ?X ?T ?kK ?kd ?ku trivial ?_; (case B => k_asm); (case F => k_asm); (case X => k_asm); (case T => k_asm); (case kK => first | exact rfl | assumption); (case kd => ktr_room); (case ku => ktr_units); (case hl => omega); (case hp => assumption); k_whole); (with_reducible rename News _ _ _ _ => N9'); intro t9 h9 tk9 F9 k9; (replace N9' := news_kept N9' k9); clear k9; (try dsimp only); (try k_fold)))
local macro_rules | `(tactic| walk_at "call builtin:str.lower") => `(tactic| (k_here; (with_reducible show wpAny _ _ (call (Value.builtin "str.lower") [Value.str _ _]) _ _ _); (refine SCL.lower (by rw [sizeLine_eq]; omega) ?_); intro _))
local macro_rules | `(tactic| walk_at "eval ListComp") => `(tactic| (k_here; k_dflt (refine LCt.ListComp_T (F₀ := by k_asm) (by with_unfolding_all rfl) (by decide) (by rfl) (by decide) (by rfl) ?_)))
local macro_rules | `(tactic| walk_at "subscriptTail") => `(tactic| (k_here; (with_reducible show wpAny _ _ (subscriptTail _ _ (Value.ref _) (Value.int _ _)) _ _ _); k_dflt (refine' item_tupleT ?t ?a ?b ?c ?d ?_; (case t => assumption); (case a => decide); (case b => decide); (case c => rfl); (case d => rfl); k_whole)))
local macro_rules | `(tactic| walk_at "call builtin:list.append") => `(tactic| (k_here; (with_reducible show wpAny _ _ (call (Value.builtin _) [Value.ref _, Value.ref _]) _ _ _); k_dflt (refine' append_K ?k1 ?k2 ?k3 ?_ ?z; (case k1 => k_asm); (case k2 => k_asm); (case k3 => k_upd); (case z => (rw [sizeLine_eq]; simp only [List.size_toArray]; omega)); k_whole); intro h' F' N'; (try k_sweep)))
local macro_rules | `(tactic| walk_at "call ref") => `(tactic| (k_here; (with_reducible show wpAny _ _ (call (Value.ref 103) _ _) _ _ _); refine Hold.out ?_))
local macro_rules | `(tactic| walk_at "delItem ref str") => `(tactic| (k_here; (with_reducible show wpAny _ _ (delItem (Value.ref _) _) _ _ _); k_dflt (refine' del_own ?F ?X ?I ?hQ ?hS ?hF ?_; (case F => k_asm); (case X => k_asm); (case I => k_inst); (case hS => k_is); (case hF => k_is); (case hQ => k_is); k_whole)))
theorem setitem {w : World} {p : Program} {loose : List Str} {mean : ExcName → Option Value} {mg mb : Str → Option Value} (dp un : Nat) (gd : Option (List Code)) (cn : Str) (cs : Scope) (a : Addr) (ccd : Value) (cl : List (Str × Addr)) (outer : List Env) (A₀ : Around) (base h₀ : Heap) (L : Addr) (m : Str → Option Value) (s : Shared) (Q E : Value → Shared → Prop)
    (x dx l : Addr) (tkd : Tok) (hsh : Int) (vs : List Value) (n : Nat) (rows : List (Str × Str)) (nm v : Str) (t1 t2 : Tok)
    (B : Below A₀ base outer h₀) (F : Fr h₀ L s.heap m) (X : (hd3.heap_39 w.params).In h₀) (T : Top p loose mean mg mb h₀) (hk : cs.kind = .function) (hd : dp + 40 < recursionLimit) (hu : un + 400 < cLine)
    (N : News h₀ L s.heap (tab3 185 x dx l tkd hsh vs n)) (R : RowsAt s.heap vs rows) (hv : vs.length ≤ 900) (h1 : x < l) (h2 : dx < l) (h3 : dx < x) (hn1 : nm.length ≤ 1000) (hn2 : (Txt.lower nm).length ≤ 1000) (hn3 : Plain (Txt.lower nm)) (hn4 : Plain nm) (hv1 : v.length ≤ 200000) (hv2 : Plain v) (hr : ∀ r ∈ rows, r.1.length ≤ 1000)
    (hret : ∀ ys T n' t3 t4 h' tk', Fr h₀ L h' m → News h₀ L h' ((T, ({ cls := .type "tuple", data := .seq #[.str nm t3, .str v t4] } : Obj)) :: tab3 185 x dx l tkd hsh (ys ++ [.ref T]) n') → (∀ g, RowsAt g vs rows → IsTup g T #[.str nm t3, .str v t4] → RowsAt g (ys ++ [.ref T]) ((rows.filter fun r => !(Txt.lower r.1 == Txt.lower nm)) ++ [(nm, v)])) → ys.length ≤ vs.length → (∀ b o, b ≠ l → s.heap.get? b = some o → h'.get? b = some o) → Q .none { s with heap := h', toks := tk' }) :
    wpAny (model PySem.Challenge.rw_pg0249_03.row.prog w) (ktrTop dp un gd cn cs L a ccd cl outer) (call (.ref 98) [.ref x, .str nm t1, .str v t2]) Q E s := by
  revert X; k_fill; intro X
  refine wpAny_call ?_
  k_dflt (refine' code_sub (binds := [(Str.ofString "self", .ref x), (Str.ofString "name", .str nm t1), (Str.ofString "val", .str v t2)]) ?k1 ?k2 ?k3 N ?k5 ?kA ?kF ?kK ?k6 ?k7 ?k8 ?k9 ?kB ?_ ?c2 ?c3 ?c4 ?c5; walk_at "ent")
  intro g' L' h' tk' hk0 l2 FG' F' N' B' X' T'
  replace hk0 : ∀ b o, b ≠ l → b ≠ x → b ≠ dx → s.heap.get? b = some o → g'.get? b = some o := fun b o n1 n2 n3 e => hk0 b o e (by simp only [List.map_cons, List.map_nil, List.mem_cons, List.not_mem_nil, or_false, not_or]; exact ⟨n1, n2, n3⟩)
  k_lt l2
  replace h1 := ltN h1
  replace h2 := ltN h2
  replace h3 := ltN h3
  have Nsub := N
  replace N' := N'
  (try dsimp only)
  with_reducible show wpAny _ _ _ _ _ _
  k_fold
  k_steps
  refine Hold.mk ?_
  have Rg := rows_ground R Nsub rfl hk0
  (with_reducible rename Fr g' _ _ _ => F1)
  (with_reducible rename News g' _ _ _ => N1)
  k_dflt (refine' delitem _ _ _ _ _ _ _ _ _ _ _ _ _ _ _ _ _ x dx l tkd hsh vs n rows nm _ B' F1 X' T' ?kK ?kd ?ku N1 (Rg.keeps F1.keep) (by omega) h1 h2 h3 hn1 hn2 hn3 hr ?_; (case kK => first | exact rfl | assumption); (case kd => ktr_room); (case ku => ktr_units); k_whole)
  clear F1 N1
  intro ys n2 h2' tk2 F2 N2 R2 k2
  have hyl : ys.length ≤ vs.length := by
    rw [(R2 _ R).length, R.length]
    exact List.length_filter_le _ _
  (try dsimp only)
  k_steps
  (with_reducible rename Fr h₀ L _ m => kF)
  (with_reducible rename Fr g' _ _ _ => gF)
  (with_reducible rename News h₀ L _ (_ :: _) => kN)
  simp only [List.push_toArray] at kN
  refine hret ys _ (n2 + 1) t1 t2 _ _ kF kN (fun g a b => (R2 g a).snoc b) hyl (fun b o nb e => ?_)
  · refine keep_sub2 Nsub kN (fun p hp hb => ?_) (fun nb2 e => gF.keep b o ?_) e
    · rcases List.mem_cons.mp hp with rfl | hp
      · exact absurd hb.symm nb
      · exact .tail _ (.tail _ hp)
    · simp only [List.map_cons, List.map_nil, List.mem_cons, List.not_mem_nil, or_false, not_or] at nb2
      exact hk0 b o nb2.1 nb2.2.1 nb2.2.2 e
end Mine
end
section
open PySem PySem.W PyProof.Rows
set_option Elab.async false
set_option maxRecDepth 100000
set_option maxHeartbeats 2000000
set_option pp.deepTerms true
set_option pp.proofs false
namespace Mine
local macro_rules | `(tactic| walk_at "none at all") => `(tactic| fail)
local macro_rules | `(tactic| walk_at "none at all") => `(tactic| fail)
local macro_rules | `(tactic| walk_at "none at all") => `(tactic| fail)
local macro_rules | `(tactic| walk_at "none at all") => `(tactic| fail)
local macro_rules | `(tactic| walk_at "none at all") => `(tactic| fail)
local macro_rules | `(tactic| walk_at "none at all") => `(tactic| fail)
local macro_rules | `(tactic| walk_at "none at all") => `(tactic| fail)
local macro_rules | `(tactic| walk_at "ent") => `(tactic| ((case kA => exact rfl); (case kF => exact rfl); (case kK => assumption); (case k1 => k_asm); (case k2 => k_asm); (case k3 => k_asm); (case k5 => k_asm); (case k6 => k_is); (case k7 => k_is); (case k8 => ktr_room); (case k9 => exact BindsTo.of_eq rfl); (case kB => exact rfl); (case kD => decide +kernel); (case c2 => exact rfl); (case c3 => exact rfl); (case c4 => exact rfl); k_whole))
local macro_rules | `(tactic| walk_at "call ref") => `(tactic| (k_here; (with_reducible show wpAny _ _ (call (Value.ref 84) _ _) _ _ _); k_dflt (refine' conv _ _ _ _ ?hl ?hp _ _ _ _ _ _ _ _ _ _ _ _ _ _ _ _ _ ?B ?F ?X ?T ?kK ?kd ?ku trivial ?_; (case B => k_asm); (case F => k_asm); (case X => k_asm); (case T => k_asm); (case kK => first | exact rfl | assumption); (case kd => ktr_room); (case ku => ktr_units); (case hl => omega); (case hp => assumption); k_whole); (with_reducible rename News _ _ _ _ => N9'); intro t9 h9 tk9 F9 k9; (replace N9' := news_kept N9' k9); clear k9; (try dsimp only); (try k_fold)))
local macro_rules | `(tactic| walk_at "call builtin:str.lower") => `(tactic| (k_here; (with_reducible show wpAny _ _ (call (Value.builtin "str.lower") [Value.str _ _]) _ _ _); (refine SCL.lower (by rw [sizeLine_eq]; omega) ?_); intro _))
local macro_rules | `(tactic| walk_at "eval ListComp") => `(tactic| (k_here; k_dflt (refine ListComp_S (F₀ := by k_asm) (by with_unfolding_all rfl) (by decide) (by rfl) (by decide) (by rfl) ?_)))
local macro_rules | `(tactic| walk_at "subscriptTail") => `(tactic| (k_here; (with_reducible show wpAny _ _ (subscriptTail _ _ (Value.ref _) (Value.int _ _)) _ _ _); k_dflt (refine' item_tupleT ?t ?a ?b ?c ?d ?_; (case t => assumption); (case a => decide); (case b => decide); (case c => rfl); (case d => rfl); k_whole)))
def putOf (f : Str → Str) (x : Str) : Str := ⟨(x.cps.toList.flatMap fun d => (f ⟨#[d]⟩).cps.toList).toArray⟩
theorem put_join (f : Str → Str) : ∀ l : List Nat, (Str.join (Str.ofString "") (l.map fun d => f ⟨#[d]⟩)).cps.toList = l.flatMap fun d => (f ⟨#[d]⟩).cps.toList
  | [] => rfl
  | [d] => by simp [Str.join]
  | d :: e :: r => by
    have := put_join f (e :: r)
    show (f ⟨#[d]⟩ ++ Str.ofString "" ++ Str.join (Str.ofString "") ((e :: r).map fun d => f ⟨#[d]⟩)).cps.toList = _
    rw [Str.cps_append, Str.cps_append, Array.toList_append, Array.toList_append, this, show (Str.ofString "").cps.toList = [] from rfl, List.append_nil]
    simp
theorem put_text (f : Str → Str) (x : Str) : Txt.join (Str.ofString "") (x.cps.toList.map fun d => f ⟨#[d]⟩) = putOf f x := by
  unfold Txt.join
  rw [StrLaws.glued_eq_join]
  exact Str.ext' (Array.toList_inj.mp (by rw [put_join]; rfl))
theorem put {w : World} {p : Program} {loose : List Str} {mean : ExcName → Option Value} {mg mb : Str → Option Value} (dp un : Nat) (gd : Option (List Code)) (cn : Str) (cs : Scope) (a : Addr) (ccd : Value) (cl : List (Str × Addr)) (outer : List Env) (A₀ : Around) (base h₀ : Heap) (L : Addr) (m : Str → Option Value) (s : Shared) (Q E : Value → Shared → Prop)
    (d : Addr) (od : Obj) (kvs : List (Str × Value)) (f : Str → Str) (x : Str) (t1 : Tok)
    (B : Below A₀ base outer h₀) (F : Fr h₀ L s.heap m) (X : (hd3.heap_39 w.params).In h₀) (T : Top p loose mean mg mb h₀) (hk : cs.kind = .function) (hd : dp + 20 < recursionLimit) (hu : un + 200 < cLine)
    (N : News h₀ L s.heap [(d, od)]) (hod : od.IsDictOf (strKind PySem.Challenge.rw_pg0249_03.row.prog w) kvs) (hlo : (d == sysModules) = false) (hf : ∀ k u, ∃ t, (valueAt kvs k).getD (.str k u) = .str (f k) t)
    (hx : x.length ≤ 200000) (ha : x.cps.all (· < 128) = true) (hfl : ((x.cps.toList.map fun d => f ⟨#[d]⟩).map (·.length)).sum ≤ 16000000)
    (hret : ∀ t h' tk', Fr h₀ L h' m → News h₀ L h' [(d, od)] → (∀ b o, s.heap.get? b = some o → h'.get? b = some o) → Q (.str (putOf f x) t) { s with heap := h', toks := tk' }) :
    wpAny (model PySem.Challenge.rw_pg0249_03.row.prog w) (ktrTop dp un gd cn cs L a ccd cl outer) (call (.ref 211) [.str x t1, .ref d]) Q E s := by
  revert X; k_fill; intro X
  refine wpAny_call ?_
  k_dflt (refine' code_subC (binds := [(Str.ofString "text", .str x t1), (Str.ofString "parts", .ref d)]) ?k1 ?k2 ?k3 N ?k5 ?kA ?kF ?kK ?k6 ?k7 ?k8 ?k9 ?kB ?kD ?_ ?c2 ?c3 ?c4; walk_at "ent")
  intro g' L' h' tk' cells' hk0 l2 FG' F' N' Y' B' X' T'
  replace hk0 : ∀ b o, b ≠ d → s.heap.get? b = some o → g'.get? b = some o := fun b o n1 e => hk0 b o e (by simp only [List.map_cons, List.map_nil, List.mem_cons, List.not_mem_nil, or_false]; exact n1)
  k_lt l2
  have Nsub := N
  k_cells Y'
  (try simp only [List.cons_append, List.nil_append] at N')
  (try dsimp only)
  with_reducible show wpAny _ _ _ _ _ _
  k_fold
  k_steps
  refine SrcS.mk ⟨x, t1, _, rfl, by rfl, by k_asm, by k_asm, ha, by rw [sizeLine_eq]; exact Nat.le_trans hx (by decide), fun s₂ hs₂ => ?_⟩
  obtain ⟨gg, rfl⟩ := hs₂
  refine restU_ind (n := x.cps.size) (J := fun i ys => StrsAre ys ((x.cps.toList.take i).map fun d => f ⟨#[d]⟩)) trivial ?_ ?_ _ 0 [] (by simp) .nil
  · intro i ys hi j v I oI C oC D m₂ h tk E' hv hC hx F N off ne
    obtain ⟨c, u, hc, rfl⟩ := hv
    obtain ⟨t9, hf9⟩ := hf ⟨#[c]⟩ u
    (try simp only [LCg.Off3, and_true] at off)
    (try dsimp only)
    k_steps
    k_dflt (refine kdg_get2 (knd := strKind _ _) N (by k_mem) hod hlo (strKind_is _ _ _ _) _ rfl ?_)
    rw [hf9]
    k_steps
    refine TurnEnd.intro (by k_asm) N (fun _ hp => hp) ?_
    have er : (x.cps.toList.take (i + 1)).map (fun d => f ⟨#[d]⟩) = (x.cps.toList.take i).map (fun d => f ⟨#[d]⟩) ++ [f ⟨#[c]⟩] := by
      rw [List.take_add_one, show x.cps.toList[i]? = some c by simpa using hc]
      simp
    rw [er]
    exact strs_snoc j _ _
  · intro ys j D9 h9 tk9 F9 N9 off9
    (try simp only [LCg.Off1, and_true] at off9)
    (try dsimp only)
    k_steps
    rw [show x.cps.toList.take x.cps.size = x.cps.toList from List.take_of_length_le (by simp)] at j
    k_here
    refine join_list ⟨_, (N9 _ (.head _)).1, rfl, _, rfl⟩ j ?_ ?_
    · have h3 : (Str.ofString "").length = 0 := rfl
      rw [h3, Nat.mul_zero]
      omega
    rw [put_text]
    intro t8 k8
    (try dsimp only)
    k_steps
    (with_reducible rename Fr h₀ L _ m => kF)
    (with_reducible rename News h₀ L _ (_ :: _) => kN)
    have kN2 : News h₀ L _ [(d, od)] := cb_drop kN (by
      intro p hp
      first
        | exact hp
        | exact .tail _ hp
        | exact .tail _ (.tail _ hp))
    refine hret t8 _ _ kF kN2 fun b o e => ?_
    refine keep_sub2 Nsub kN2 (fun p hp hb => hp) (fun nb2 e => F9.keep b o ?_) e
    simp only [List.map_cons, List.map_nil, List.mem_cons, List.not_mem_nil, or_false] at nb2
    exact hk0 b o nb2 e
end Mine
end
section
open PySem PySem.W PyProof.Rows
set_option Elab.async false
set_option maxRecDepth 100000
set_option maxHeartbeats 2000000
set_option pp.deepTerms true
set_option pp.proofs false
namespace Mine
local macro_rules | `(tactic| walk_at "ent") => `(tactic| ((case kA => exact rfl); (case kF => exact rfl); (case kK => assumption); (case k1 => k_asm); (case k2 => k_asm); (case k3 => k_asm); (case k5 => k_asm); (case k6 => k_is); (case k7 => k_is); (case k8 => ktr_room); (case k9 => first | exact BindsTo.of_eq rfl | (refine' kp_binds ?kx ?ke; (case kx => k_in); (case ke => exact fun _ => rfl))); (case kB => exact locs rfl); (case c5 => decide); (case c2 => exact rfl); (case c3 => exact rfl); (case c4 => exact rfl); k_whole))
theorem mkTable {w : World} {p : Program} {loose : List Str} {mean : ExcName → Option Value} {mg mb : Str → Option Value} (dp un : Nat) (gd : Option (List Code)) (cn : Str) (cs : Scope) (a : Addr) (ccd : Value) (cl : List (Str × Addr)) (outer : List Env) (A₀ : Around) (base h₀ : Heap) (L : Addr) (m : Str → Option Value) (s : Shared) (Q E : Value → Shared → Prop)
    (B : Below A₀ base outer h₀) (F : Fr h₀ L s.heap m) (X : (hd3.heap_39 w.params).In h₀) (T : Top p loose mean mg mb h₀) (hk : cs.kind = .function) (hd : dp + 20 < recursionLimit) (hu : un + 200 < cLine)
    (hret : ∀ x dx l tkd hsh h' tk', Fr h₀ L h' m → News h₀ L h' (tab3 185 x dx l tkd hsh [] 0) → x < l → dx < l → dx < x → Q (.ref x) { s with heap := h', toks := tk' }) :
    wpAny (model PySem.Challenge.rw_pg0249_03.row.prog w) (ktrTop dp un gd cn cs L a ccd cl outer) (call (.ref 185) []) Q E s := by
  revert X; k_fill; intro X
  have N : News h₀ L s.heap [] := News.nil
  k_dflt (refine' call_cls ?k1 ?k2 ?k3 ?k4 ?k5 ?k6 ?_; (case k1 => k_asm); (case k2 => k_asm); (case k3 => k_asm); (case k4 => k_is); (case k5 => k_is); (case k6 => k_is); k_whole; intro x' d' h9 F9 N9 l1 l2; (try k_lt l1); (try k_lt2 l2))
  k_dflt (refine' code_sub (binds := [(Str.ofString "self", .ref x'), (Str.ofString "headers", .none)]) ?k1 ?k2 ?k3 N9 ?k5 ?kA ?kF ?kK ?k6 ?k7 ?k8 ?k9 ?kB ?_ ?c2 ?c3 ?c4 ?c5; walk_at "ent")
  intro g' L' h' tk' hk0 l3 FG' F' N' B' X' T'
  replace hk0 : ∀ b o, b ≠ x' → b ≠ d' → h9.get? b = some o → g'.get? b = some o := fun b o n1 n2 e => hk0 b o e (by simp only [List.map_cons, List.map_nil, List.mem_cons, List.not_mem_nil, or_false, not_or]; exact ⟨n1, n2⟩)
  k_lt l3
  have Nsub := N9
  replace N' := N'
  (try dsimp only)
  with_reducible show wpAny _ _ _ _ _ _
  k_fold
  k_steps
  (with_reducible rename Fr h₀ L _ m => kF)
  (with_reducible rename News h₀ L _ (_ :: _) => kN)
  refine hret _ _ _ _ _ _ _ kF kN ?_ ?_ l2
  all_goals ((repeat ((with_reducible rename _ ∧ _ => hh9); obtain ⟨_, _⟩ := hh9)); assumption)
end Mine
end
section
open PySem PySem.W PyProof.Rows
set_option Elab.async false
set_option maxRecDepth 100000
namespace Mine
theorem sign_eq (c d : Nat) : ((⟨#[c]⟩ : Str) == ⟨#[d]⟩) = (c == d) := by
  rw [Bool.eq_iff_iff, beq_iff_eq, beq_iff_eq]
  constructor
  · intro h
    have : (⟨#[c]⟩ : Str).cps.toList = (⟨#[d]⟩ : Str).cps.toList := by rw [h]
    exact List.head_eq_of_cons_eq this
  · rintro rfl
    rfl
structure Cut (a b : Str) (pre p q r1 r2 : List Nat) : Prop where
  ha : a.cps.toList = pre ++ p ++ r1
  hb : b.cps.toList = pre ++ q ++ r2
  tp : isT 1 p
  tq : isT 1 q
  hd : ∃ c p' d q', p = c :: p' ∧ q = d :: q' ∧ c ≠ d
def isV (p : List Nat) : Bool := p == [120] || p == [121] || p == [122]
def KeyOk (s : Str) : Prop := s = ⟨#[88]⟩ ∨ s = ⟨#[89]⟩ ∨ s = ⟨#[90]⟩
def Asc (x : Str) : Prop := x.cps.all (· < 128) = true
structure RowsOk (rows : List (Str × Str)) : Prop where
  n : rows.length ≤ 3
  key : ∀ r ∈ rows, KeyOk r.1
  nd : (rows.map (·.1)).Nodup
  pl : ∀ r ∈ rows, Plain r.2
  len : ∀ r ∈ rows, r.2.length ≤ 200000
def RowsIn (tups : List (Addr × Obj)) (vs : List Value) (rows : List (Str × Str)) : Prop := ∀ g : Heap, (∀ p ∈ tups, g.get? p.1 = some p.2) → RowsAt g vs rows
def TupsOk (tups : List (Addr × Obj)) : Prop := ∀ p ∈ tups, p.2.cls = .type "tuple" ∧ ∃ a, p.2.data = .seq a 0
def eqs (a b : Str) (i : Nat) : List Bool := List.zipWith (fun c d => c == d) (a.cps.toList.take i) (b.cps.toList.take i)
theorem eqs_succ {a b : Str} {i c d : Nat} (h1 : a.cps[i]? = some c) (h2 : b.cps[i]? = some d) : eqs a b (i + 1) = eqs a b i ++ [c == d] := by
  unfold eqs
  have e1 : a.cps.toList[i]? = some c := by simpa using h1
  have e2 : b.cps.toList[i]? = some d := by simpa using h2
  obtain ⟨l1, _⟩ := List.getElem?_eq_some_iff.mp e1
  obtain ⟨l2, _⟩ := List.getElem?_eq_some_iff.mp e2
  rw [List.take_add_one, List.take_add_one, e1, e2, Option.toList_some, Option.toList_some, List.zipWith_append (by rw [List.length_take, List.length_take]; omega)]
  rfl
theorem eqs_get {a b : Str} {n i c d : Nat} (h1 : a.cps.toList[i]? = some c) (h2 : b.cps.toList[i]? = some d) (hi : i < n) : (eqs a b n)[i]? = some (c == d) := by
  unfold eqs
  rw [List.getElem?_zipWith, List.getElem?_take_of_lt hi, List.getElem?_take_of_lt hi, h1, h2]
theorem cut_at {a b : Str} {pre p q r1 r2 : List Nat} (C : Cut a b pre p q r1 r2) : pre.length < min a.cps.size b.cps.size ∧ (eqs a b (min a.cps.size b.cps.size))[pre.length]? = some false ∧ ∀ i, i < pre.length → (eqs a b (min a.cps.size b.cps.size))[i]? = some true := by
  obtain ⟨c, p', d, q', rfl, rfl, ne⟩ := C.hd
  have la : a.cps.size = pre.length + (c :: p').length + r1.length := by rw [← Array.length_toList, C.ha]; simp; omega
  have lb : b.cps.size = pre.length + (d :: q').length + r2.length := by rw [← Array.length_toList, C.hb]; simp; omega
  have hlt : pre.length < min a.cps.size b.cps.size := by simp only [List.length_cons] at la lb; omega
  refine ⟨hlt, ?_, fun i hi => ?_⟩
  · rw [eqs_get (c := c) (d := d) (by rw [C.ha]; simp) (by rw [C.hb]; simp) hlt]
    simp [ne]
  · rw [eqs_get (c := pre[i]) (d := pre[i]) (by rw [C.ha]; simp [List.getElem?_append, hi]) (by rw [C.hb]; simp [List.getElem?_append, hi]) (by omega)]
    simp
/-- what the loop of _law_table is asked -/
structure Mach (Inv : Nat → Str → Str → List (Str × Str) → Prop) (Bad : Prop) : Prop where
  asc : ∀ k a b rows, Inv k a b rows → Asc a ∧ Asc b
  len : ∀ k a b rows, Inv k a b rows → a.length ≤ 200000 ∧ b.length ≤ 200000
  rows : ∀ k a b rows, Inv k a b rows → RowsOk rows
  cut : ∀ k a b rows, Inv k a b rows → a ≠ b → ∃ pre p q r1 r2, Cut a b pre p q r1 r2
  bad : ∀ k a b rows pre p q r1 r2, Inv k a b rows → Cut a b pre p q r1 r2 → isV p = false → isV q = false → Bad
  occ : ∀ k a b rows pre p q r1 r2 c, Inv k a b rows → Cut a b pre p q r1 r2 → (p = [c] ∧ isV p = true ∧ c ∈ q ∨ q = [c] ∧ isV p = false ∧ isV q = true ∧ c ∈ p) → Bad
  small : ∀ k a b rows pre p q r1 r2, Inv k a b rows → Cut a b pre p q r1 r2 → isV p = true ∨ isV q = true → a.length ≤ 1000 ∧ b.length ≤ 1000 ∧ ∀ r ∈ rows, r.2.length ≤ 1000
  step : ∀ k a b rows pre p q r1 r2 c pt, Inv k a b rows → Cut a b pre p q r1 r2 → (p = [c] ∧ isV p = true ∧ pt = q ∨ q = [c] ∧ isV p = false ∧ isV q = true ∧ pt = p) → c ∉ pt →
    1 ≤ k ∧ Plain ⟨pt.toArray⟩ ∧
    Inv (k - 1) (rep a ⟨#[c]⟩ ⟨pt.toArray⟩) (rep b ⟨#[c]⟩ ⟨pt.toArray⟩) (rows.map (fun r => (r.1, rep r.2 ⟨#[c]⟩ ⟨pt.toArray⟩)) ++ [(⟨#[c - 32]⟩, ⟨pt.toArray⟩)])
theorem News.sub {h₀ h : Heap} {L : Addr} {l l' : List (Addr × Obj)} (N : News h₀ L h l) (k : ∀ p ∈ l', p ∈ l) : News h₀ L h l' := fun p hp => N p (k p hp)
theorem onTop {h₀ h h' : Heap} {L : Addr} {a : Addr × Obj} {l r : List (Addr × Obj)} (N : News h₀ L h l) (N' : News h₀ L h' (a :: r)) (k : ∀ b o, h.get? b = some o → h'.get? b = some o) : News h₀ L h' (a :: l) := fun p hp => by
  rcases List.mem_cons.mp hp with rfl | hp
  · exact N' _ (.head _)
  · exact ⟨k _ _ (N p hp).1, (N p hp).2⟩
def repR (c : Nat) (pt : List Nat) (r : Str × Str) : Str × Str := (r.1, rep r.2 ⟨#[c]⟩ ⟨pt.toArray⟩)
theorem isT_one {p : List Nat} (h : isT 1 p) : (∃ c, p = [c] ∧ c ≠ 102) ∨ ∃ r, p = 102 :: r := by
  cases p with
  | nil => exact absurd h id
  | cons c r =>
    by_cases e : c = 102
    · exact .inr ⟨r, by rw [e]⟩
    · have h' : (if c = 102 then isT 2 r else isT 0 r) := h
      rw [if_neg e] at h'
      exact .inl ⟨c, by rw [isT_zero h'], e⟩
theorem isV_one (c : Nat) : isV [c] = decide (c = 120 ∨ c = 121 ∨ c = 122) := by
  rw [Bool.eq_iff_iff, decide_eq_true_eq]
  simp [isV, or_assoc]
theorem isV_get {p : List Nat} (h : isV p = true) : ∃ c, p = [c] ∧ (c = 120 ∨ c = 121 ∨ c = 122) := by
  simp only [isV, Bool.or_eq_true, beq_iff_eq] at h
  rcases h with (h | h) | h
  · exact ⟨120, h, .inl rfl⟩
  · exact ⟨121, h, .inr (.inl rfl)⟩
  · exact ⟨122, h, .inr (.inr rfl)⟩
theorem occ_xyz {p : List Nat} (h : isT 1 p) : (Builtin.Str.occurrences (Str.ofString "xyz") ⟨p.toArray⟩ 0 (Str.ofString "xyz").length 1).isEmpty = !isV p := by
  rcases isT_one h with ⟨c, rfl, _⟩ | ⟨r, rfl⟩
  · have := empty_one (Str.ofString "xyz") c
    rw [isV_one]
    refine this.trans ?_
    congr 1
    rw [Bool.eq_iff_iff, decide_eq_true_eq, decide_eq_true_eq, show (Str.ofString "xyz").cps.toList = [120, 121, 122] from rfl]
    simp
  · have hv : isV (102 :: r) = false := by simp [isV]
    rw [hv]
    cases e : (Builtin.Str.occurrences (Str.ofString "xyz") ⟨(102 :: r).toArray⟩ 0 (Str.ofString "xyz").length 1).isEmpty with
    | true => rfl
    | false =>
      exfalso
      obtain ⟨i, hi, hs⟩ := (StrLaws.found_iff (Str.ofString "xyz") ⟨(102 :: r).toArray⟩).mp (by rw [e]; rfl)
      rw [StrLaws.subAt_eq] at hs
      have hs := eq_of_beq hs
      have hm : (102 : Nat) ∈ (Str.ofString "xyz").cps.toList := List.mem_of_mem_drop (List.mem_of_mem_take (by rw [hs]; simp))
      rw [show (Str.ofString "xyz").cps.toList = [120, 121, 122] from rfl] at hm
      simp at hm
theorem F4_one (x : Str) (c : Nat) : decide (0 ≤ F4 x ⟨#[c]⟩ 0 x.length) = decide (c ∈ x.cps.toList) := by
  have := empty_one x c
  unfold F4
  cases e : Builtin.Str.occurrences x ⟨#[c]⟩ 0 x.length 1 with
  | nil =>
    rw [e] at this
    simp at this
    simp [this]
  | cons k r =>
    rw [e] at this
    simp at this
    simp [this]
theorem want_in {c : Nat} (h : c = 120 ∨ c = 121 ∨ c = 122) : (Builtin.Str.occurrences (Str.ofString "..." ++ ⟨#[c]⟩ ++ Str.ofString "...") (Str.ofString "...") 0 (Str.ofString "..." ++ ⟨#[c]⟩ ++ Str.ofString "...").length 1).isEmpty = false := by
  rcases h with rfl | rfl | rfl <;> decide +kernel
theorem want_split {c : Nat} (h : c = 120 ∨ c = 121 ∨ c = 122) : Txt.split (Str.ofString "..." ++ ⟨#[c]⟩ ++ Str.ofString "...") (Str.ofString "...") = [Str.ofString "", ⟨#[c]⟩, Str.ofString ""] := by
  rcases h with rfl | rfl | rfl <;> decide +kernel
def fnB (nm : Str) : List Stmt → List Stmt
  | [] => []
  | .FunctionDef n _ b _ _ _ _ _ _ _ :: r => if n = nm then b else fnB nm r
  | _ :: r => fnB nm r
def fnS (nm : Str) : List Stmt → Scope
  | [] => default
  | .FunctionDef n _ _ _ _ _ s _ _ _ :: r => if n = nm then s else fnS nm r
  | _ :: r => fnS nm r
def whB : Stmt → List Stmt
  | .While _ b _ _ => b
  | _ => []
def tScope : Scope := fnS (Str.ofString "_law_table") PySem.Challenge.pw_pg0249_03.main.body
def tTail : List Stmt := (whB (match fnB (Str.ofString "_law_table") PySem.Challenge.pw_pg0249_03.main.body with | _ :: x :: _ => x | _ => .Pass default)).drop 4
abbrev tEnv (L : Addr) : Env := envOf (Str.ofString "_law_table") tScope L 206 (.ref 205)
end Mine
end
section
open PySem PySem.W PyProof.Rows
set_option Elab.async false
set_option maxRecDepth 100000
set_option maxHeartbeats 4000000
set_option pp.deepTerms true
set_option pp.proofs false
namespace Mine
local macro_rules | `(tactic| walk_at "none at all") => `(tactic| fail)
local macro_rules | `(tactic| walk_at "none at all") => `(tactic| fail)
local macro_rules | `(tactic| walk_at "none at all") => `(tactic| fail)
local macro_rules | `(tactic| walk_at "none at all") => `(tactic| fail)
local macro_rules | `(tactic| walk_at "none at all") => `(tactic| fail)
local macro_rules | `(tactic| walk_at "call ref") => `(tactic| (k_here; (with_reducible show wpAny _ _ (call (Value.ref 149) _ _) _ _ _); refine Hold.out ?_))
local macro_rules | `(tactic| walk_at "call ref") => `(tactic| (k_here; (with_reducible show wpAny _ _ (call (Value.ref 98) _ _) _ _ _); refine Hold.out ?_))
local macro_rules | `(tactic| walk_at "call ref") => `(tactic| (k_here; (with_reducible show wpAny _ _ (call (Value.ref 45) _ _) _ _ _); k_dflt (refine' replace1 _ _ _ _ _ _ ?h1 ?h2 ?hy1 _ _ _ _ _ _ _ _ _ _ _ _ _ _ _ _ _ ?B ?F ?X ?T ?kK ?kd ?ku trivial ?_; (case B => k_asm); (case F => k_asm); (case X => k_asm); (case T => k_asm); (case kK => first | exact rfl | assumption); (case kd => ktr_room); (case ku => ktr_units); (case h1 => assumption); (case h2 => assumption); (case hy1 => exact rfl); k_whole); (with_reducible rename News _ _ _ _ => N9'); intro t9 h9 tk9 F9 k9; (replace N9' := news_kept N9' k9); clear k9; (try dsimp only); (try k_fold)))
local macro_rules | `(tactic| walk_at "call builtin:str.upper") => `(tactic| (k_here; (with_reducible show wpAny _ _ (call (Value.builtin "str.upper") [Value.str _ _]) _ _ _); (refine SCL.upper (by omega) ?_); intro _))
local macro_rules | `(tactic| walk_at "pyIter ref") => `(tactic| (k_here; refine Hold.out ?_))
local macro_rules | `(tactic| walk_at "UnrEndW") => `(tactic| (refine Hold.out ?_))
local macro_rules | `(tactic| walk_at "exec For Tuple Call cons nil") => `(tactic| (k_here; refine Hold.out ?_))
local macro_rules | `(tactic| walk_at "exec For") => `(tactic| (k_here; refine Hold.out ?_))
theorem keyFacts {s : Str} (h : KeyOk s) : s.length ≤ 1000 ∧ (Txt.lower s).length ≤ 1000 ∧ Plain (Txt.lower s) ∧ Plain s := by
  have pl : ∀ x : Str, (x.cps.all fun d => decide (32 ≤ d) && decide (d < 127)) = true → Plain x := fun x hx i hi => by
    have := Array.all_eq_true.mp hx i hi
    rw [show x.cps.getD i 0 = x.cps[i] by simp [Array.getD, hi]]
    simpa using this
  rcases h with rfl | rfl | rfl
  · exact ⟨by decide, by decide +kernel, pl _ (by decide +kernel), pl _ (by decide +kernel)⟩
  · exact ⟨by decide, by decide +kernel, pl _ (by decide +kernel), pl _ (by decide +kernel)⟩
  · exact ⟨by decide, by decide +kernel, pl _ (by decide +kernel), pl _ (by decide +kernel)⟩
theorem keyLow {s t : Str} (h : KeyOk s) (h' : KeyOk t) : (Txt.lower s == Txt.lower t) = decide (s = t) := by
  rcases h with rfl | rfl | rfl <;> rcases h' with rfl | rfl | rfl <;> decide +kernel
theorem filt_keep {k : Str} {l : List (Str × Str)} (hk : KeyOk k) (hl : ∀ r ∈ l, KeyOk r.1) (h : ∀ r ∈ l, r.1 ≠ k) : l.filter (fun r => !(Txt.lower r.1 == Txt.lower k)) = l := by
  refine List.filter_eq_self.mpr fun r hr => ?_
  rw [keyLow (hl r hr) hk]
  simp [h r hr]
theorem rot_rows {c : Nat} {pt : List Nat} {rows : List (Str × Str)} (ok : RowsOk rows) {i : Nat} {k v : Str} (e : rows[i]? = some (k, v)) :
    ((rows.drop i ++ (rows.take i).map (repR c pt)).filter fun r => !(Txt.lower r.1 == Txt.lower k)) ++ [(k, rep v ⟨#[c]⟩ ⟨pt.toArray⟩)] = rows.drop (i + 1) ++ (rows.take (i + 1)).map (repR c pt) := by
  obtain ⟨hi, he⟩ := List.getElem?_eq_some_iff.mp e
  have hk : KeyOk k := ok.key (k, v) (List.mem_of_getElem? e)
  have hsplit : rows = rows.take i ++ (k, v) :: rows.drop (i + 1) := by rw [← he, ← List.drop_eq_getElem_cons hi, List.take_append_drop]
  have nd := ok.nd
  rw [hsplit, List.map_append, List.map_cons] at nd
  have nd2 := (List.nodup_append.mp nd)
  have n1 : ∀ r ∈ rows.take i, r.1 ≠ k := fun r hr => nd2.2.2 r.1 (List.mem_map_of_mem hr) k (.head _)
  have n2 : ∀ r ∈ rows.drop (i + 1), r.1 ≠ k := fun r hr e2 => (List.nodup_cons.mp nd2.2.1).1 (by
    have := List.mem_map_of_mem (f := fun r : Str × Str => r.1) hr
    rw [e2] at this
    exact this)
  have kt : ∀ r ∈ rows.take i, KeyOk r.1 := fun r hr => ok.key r (List.mem_of_mem_take hr)
  have kd : ∀ r ∈ rows.drop (i + 1), KeyOk r.1 := fun r hr => ok.key r (List.mem_of_mem_drop hr)
  rw [List.filter_append, List.drop_eq_getElem_cons hi, he, List.filter_cons, show (!(Txt.lower (k, v).1 == Txt.lower k)) = false by simp, if_neg (by decide), filt_keep hk kd n2,
    filt_keep hk (fun r hr => by obtain ⟨r', h', rfl⟩ := List.mem_map.mp hr; exact kt r' h') (fun r hr => by obtain ⟨r', h', rfl⟩ := List.mem_map.mp hr; exact n1 r' h'),
    List.take_add_one, e, List.map_append, List.append_assoc]
  rfl
theorem reNews {h₀ h h' : Heap} {L l T : Addr} {a b c d : Addr × Obj} {o o' ot : Obj} {tups : List (Addr × Obj)} (N : News h₀ L h (a :: b :: (l, o) :: c :: d :: tups)) (N3 : News h₀ L h' [(T, ot), (l, o'), c, d]) (k : ∀ b o, b ≠ l → h.get? b = some o → h'.get? b = some o)
    (ha : a.1 ≠ l) (hb : b.1 ≠ l) (ht : ∀ p ∈ tups, p.1 ≠ l) : News h₀ L h' (a :: b :: (l, o') :: c :: d :: (T, ot) :: tups) := fun p hp => by
  rcases List.mem_cons.mp hp with rfl | hp
  · exact ⟨k _ _ ha (N _ (.head _)).1, (N _ (.head _)).2⟩
  rcases List.mem_cons.mp hp with rfl | hp
  · exact ⟨k _ _ hb (N _ (.tail _ (.head _))).1, (N _ (.tail _ (.head _))).2⟩
  rcases List.mem_cons.mp hp with rfl | hp
  · exact N3 _ (.tail _ (.head _))
  rcases List.mem_cons.mp hp with rfl | hp
  · exact N3 _ (.tail _ (.tail _ (.head _)))
  rcases List.mem_cons.mp hp with rfl | hp
  · exact N3 _ (.tail _ (.tail _ (.tail _ (.head _))))
  rcases List.mem_cons.mp hp with rfl | hp
  · exact N3 _ (.head _)
  · have z := N p (.tail _ (.tail _ (.tail _ (.tail _ (.tail _ hp)))))
    exact ⟨k _ _ (ht p hp) z.1, z.2⟩
theorem reNews0 {h₀ h h' : Heap} {L l T : Addr} {c d : Addr × Obj} {o o' ot : Obj} {tups : List (Addr × Obj)} (N : News h₀ L h ((l, o) :: c :: d :: tups)) (N3 : News h₀ L h' [(T, ot), (l, o'), c, d]) (k : ∀ b o, b ≠ l → h.get? b = some o → h'.get? b = some o)
    (ht : ∀ p ∈ tups, p.1 ≠ l) : News h₀ L h' ((l, o') :: c :: d :: (T, ot) :: tups) := fun p hp => by
  rcases List.mem_cons.mp hp with rfl | hp
  · exact N3 _ (.tail _ (.head _))
  rcases List.mem_cons.mp hp with rfl | hp
  · exact N3 _ (.tail _ (.tail _ (.head _)))
  rcases List.mem_cons.mp hp with rfl | hp
  · exact N3 _ (.tail _ (.tail _ (.tail _ (.head _))))
  rcases List.mem_cons.mp hp with rfl | hp
  · exact N3 _ (.head _)
  · have z := N p (.tail _ (.tail _ (.tail _ hp)))
    exact ⟨k _ _ (ht p hp) z.1, z.2⟩
theorem offCls {h₀ h : Heap} {L a : Addr} {o : Obj} {n : String} {news tups : List (Addr × Obj)} (N : News h₀ L h news) (ho : (a, o) ∈ news) (hc : o.cls = .type n) (hn : n ≠ "tuple") (hs : ∀ p ∈ tups, p ∈ news) (hT : TupsOk tups) : ∀ p ∈ tups, p.1 ≠ a := by
  intro p hp e
  have z := (N p (hs p hp)).1
  rw [e, (N _ ho).1] at z
  have c := (hT p hp).1
  rw [← Option.some.inj z, hc] at c
  exact hn (Value.type.inj c)
theorem endZT {h₀ h' : Heap} {L : Addr} {its all : List (Addr × Obj)} {rest : (Str → Option Value) → List (Addr × Obj) → Prop} {s₁ : Shared} {tk : Nat} {m' : Str → Option Value} (F : Fr h₀ L h' m') (N : News h₀ L h' all) (news' : List (Addr × Obj)) (sub : ∀ p ∈ its ++ news', p ∈ all) (off : ∀ p ∈ news', ∀ q ∈ its, p.1 ≠ q.1) (r : rest m' news') : UnrEndW h₀ L s₁ its rest { s₁ with heap := h', toks := tk } :=
  ⟨h', tk, m', news', rfl, F, fun p hp => N p (sub p hp), off, r⟩
theorem sub3 {a b c : Addr × Obj} {pre post : List (Addr × Obj)} : ∀ p ∈ [a, b, c], p ∈ pre ++ a :: b :: c :: post := by
  intro p hp
  refine List.mem_append.mpr (.inr ?_)
  rcases List.mem_cons.mp hp with rfl | hp
  · exact .head _
  rcases List.mem_cons.mp hp with rfl | hp
  · exact .tail _ (.head _)
  rcases List.mem_cons.mp hp with rfl | hp
  · exact .tail _ (.tail _ (.head _))
  · cases hp
theorem rowsIn_snoc {tups : List (Addr × Obj)} {vs ys : List Value} {rows rows' : List (Str × Str)} {T : Addr} {k v : Str} {t3 t4 : Tok} (R : RowsIn tups vs rows) (h : ∀ g, RowsAt g vs rows → IsTup g T #[.str k t3, .str v t4] → RowsAt g (ys ++ [.ref T]) rows') :
    RowsIn ((T, ({ cls := .type "tuple", data := .seq #[.str k t3, .str v t4] } : Obj)) :: tups) (ys ++ [.ref T]) rows' := fun g hg =>
  h g (R g fun p hp => hg p (.tail _ hp)) ⟨_, hg _ (.head _), rfl, _, rfl⟩
theorem ttail {w : World} {p : Program} {loose : List Str} {mean : ExcName → Option Value} {mg mb : Str → Option Value} (dp un : Nat) (gd : Option (List Code)) (cn : Str) (cs : Scope) (a : Addr) (ccd : Value) (cl : List (Str × Addr)) (outer : List Env) (base g' : Heap) (L L' : Addr) (m : Str → Option Value) (s : Shared) (Q : Flow → Shared → Prop) (E : Value → Shared → Prop)
    (x dx l : Addr) (tkd : Tok) (hsh : Int) (vs : List Value) (nn : Nat) (rows : List (Str × Str)) (tups : List (Addr × Obj)) (o1 o2 : Str) (c : Nat) (pt : List Nat) (e1 e2 tn tp : Tok)
    (B' : Below (ktrTop dp un gd cn cs L a ccd cl outer) base (envX cn cs L a ccd cl :: outer) g') (F : Fr g' L' s.heap m) (X' : (hd3.heap_39 w.params).In g') (T' : Top p loose mean mg mb g') (hk : cs.kind = .function) (hd : dp + 100 < recursionLimit) (hu : un + 1000 < cLine)
    (N : News g' L' s.heap (tab3 185 x dx l tkd hsh vs nn ++ tups)) (jR : RowsIn tups vs rows) (jT : TupsOk tups) (q1 : x < l) (q2 : dx < l) (q3 : dx < x)
    (m1 : m (Str.ofString "table") = some (.ref x)) (m2 : m (Str.ofString "one") = some (.str o1 e1)) (m3 : m (Str.ofString "other") = some (.str o2 e2)) (m4 : m (Str.ofString "name") = some (.str ⟨#[c]⟩ tn)) (m5 : m (Str.ofString "part") = some (.str ⟨pt.toArray⟩ tp))
    (hc : c = 120 ∨ c = 121 ∨ c = 122) (l1 : o1.length ≤ 1000) (l2 : o2.length ≤ 1000) (l3 : pt.length ≤ 1000) (l4 : ∀ r ∈ rows, r.2.length ≤ 1000) (r1 : RowsOk rows) (r2 : RowsOk (rows.map (repR c pt) ++ [(⟨#[c - 32]⟩, ⟨pt.toArray⟩)])) (hp : Plain ⟨pt.toArray⟩)
    (hE : PassesOwn (model PySem.Challenge.rw_pg0249_03.row.prog w) ((ktrTop dp un gd cn cs L a ccd cl outer).deeper (tEnv L')) (tEnv L') E)
    (hret : ∀ m' h tk vs' nn' tups' e1' e2', Fr g' L' h m' → News g' L' h (tab3 185 x dx l tkd hsh vs' nn' ++ tups') → RowsIn tups' vs' (rows.map (repR c pt) ++ [(⟨#[c - 32]⟩, ⟨pt.toArray⟩)]) → TupsOk tups' →
      m' (Str.ofString "table") = some (.ref x) → m' (Str.ofString "one") = some (.str (rep o1 ⟨#[c]⟩ ⟨pt.toArray⟩) e1') → m' (Str.ofString "other") = some (.str (rep o2 ⟨#[c]⟩ ⟨pt.toArray⟩) e2') → Q .next { s with heap := h, toks := tk }) :
    wpAny (model PySem.Challenge.rw_pg0249_03.row.prog w) ((ktrTop dp un gd cn cs L a ccd cl outer).deeper (tEnv L')) (execs tTail (tEnv L')) Q E s := by
  revert X'; k_fill; intro X'
  have eS : tScope = tScope := rfl
  have eB : tTail = tTail := rfl
  (conv at eS => rhs; whnf)
  (conv at eB => rhs; whnf)
  unfold tEnv at hE ⊢
  rw [eS] at hE ⊢
  rw [eB]
  clear eS eB
  obtain ⟨m, rfl⟩ := see_eq m1
  replace m2 := see_in m2 (by decide)
  replace m3 := see_in m3 (by decide)
  replace m4 := see_in m4 (by decide)
  replace m5 := see_in m5 (by decide)
  obtain ⟨m, rfl⟩ := see_eq m2
  replace m3 := see_in m3 (by decide)
  replace m4 := see_in m4 (by decide)
  replace m5 := see_in m5 (by decide)
  obtain ⟨m, rfl⟩ := see_eq m3
  replace m4 := see_in m4 (by decide)
  replace m5 := see_in m5 (by decide)
  obtain ⟨m, rfl⟩ := see_eq m4
  replace m5 := see_in m5 (by decide)
  obtain ⟨m, rfl⟩ := see_eq m5
  clear m1 m2 m3 m4 m5
  (try simp only [List.cons_append, List.nil_append] at N)
  have hvr : vs.length = rows.length := (jR s.heap fun p hp => (N p (.tail _ (.tail _ (.tail _ hp)))).1).length
  have hvl : vs.length ≤ 3 := by
    have := (jR s.heap fun p hp => (N p (.tail _ (.tail _ (.tail _ hp)))).1).length
    have := r1.n
    omega
  k_steps
  refine Hold.mk ?_
  (with_reducible rename Fr g' _ _ _ => F1)
  (with_unfolding_all refine' For_turns (hE := hE) F1 ?_; k_whole)

  k_steps
  refine Hold.mk ?_
  (with_reducible rename Fr g' _ _ _ => F1)
  (with_reducible rename News g' _ _ _ => N1)
  k_dflt (refine' items _ _ _ _ _ _ _ _ _ _ _ _ _ _ _ _ _ x dx l tkd hsh vs nn B' F1 X' T' ?kK ?kd ?ku (News.sub N1 fun p hp => by
    rcases List.mem_cons.mp hp with rfl | hp
    · exact .head _
    rcases List.mem_cons.mp hp with rfl | hp
    · exact .tail _ (.head _)
    rcases List.mem_cons.mp hp with rfl | hp
    · exact .tail _ (.tail _ (.head _))
    · cases hp) (by omega) q1 q2 q3 ?_; (case kK => first | exact rfl | assumption); (case kd => ktr_room); (case ku => ktr_units); k_whole)
  intro D nD h2 tk2 F2 N2 k2 dlt
  have N3 := onTop N1 N2 k2
  have D1 : @LT.lt Nat _ l D := dlt _ _ (N1 _ (.head _)).1
  have D2 : @LT.lt Nat _ x D := dlt _ _ (N1 _ (.tail _ (.head _))).1
  have D3 : @LT.lt Nat _ dx D := dlt _ _ (N1 _ (.tail _ (.tail _ (.head _)))).1
  clear N1 N2 k2 dlt F1
  (try dsimp only)
  k_steps
  refine Hold.mk ?_
  (with_reducible rename Fr g' _ _ _ => F1)
  (with_reducible rename News g' _ _ _ => N1)
  (with_unfolding_all refine iter_listTurns (lo := listOf vs.toArray nD) (vs := vs) (by rfl) F1 N1 (.head _) (by rfl) (by rfl) ?_)
  intro I hI
  refine valRest_ind (J := fun i m' news => ∃ vs' nn' tups', news = (D, listOf vs.toArray nD) :: (tab3 185 x dx l tkd hsh vs' nn' ++ tups') ∧ RowsIn tups' vs' (rows.drop i ++ (rows.take i).map (repR c pt)) ∧ TupsOk tups' ∧ (∀ p ∈ tups, p ∈ tups') ∧
    m' (Str.ofString "table") = some (.ref x) ∧ m' (Str.ofString "one") = some (.str o1 e1) ∧ m' (Str.ofString "other") = some (.str o2 e2) ∧ m' (Str.ofString "name") = some (.str ⟨#[c]⟩ tn) ∧ m' (Str.ofString "part") = some (.str ⟨pt.toArray⟩ tp)) ?_ ?_ vs.length 0 _ _ rfl ⟨vs, nn, tups, rfl, by simpa using jR, jT, fun _ h => h, rfl, rfl, rfl, rfl, rfl⟩
  · intro i v m1 news1 e1' j h9 tk9 F9
    obtain ⟨vs', nn', tups', rfl, jR', jT', jS', j1, j2, j3, j4, j5⟩ := j
    obtain ⟨m1, rfl⟩ := see_eq j1
    replace j2 := see_in j2 (by decide)
    replace j3 := see_in j3 (by decide)
    replace j4 := see_in j4 (by decide)
    replace j5 := see_in j5 (by decide)
    obtain ⟨m1, rfl⟩ := see_eq j2
    replace j3 := see_in j3 (by decide)
    replace j4 := see_in j4 (by decide)
    replace j5 := see_in j5 (by decide)
    obtain ⟨m1, rfl⟩ := see_eq j3
    replace j4 := see_in j4 (by decide)
    replace j5 := see_in j5 (by decide)
    obtain ⟨m1, rfl⟩ := see_eq j4
    replace j5 := see_in j5 (by decide)
    obtain ⟨m1, rfl⟩ := see_eq j5
    clear j1 j2 j3 j4 j5
    intro o9 ho9 N9
    (try simp only [List.cons_append, List.nil_append] at N9)
    obtain ⟨T9, k9, v9, u1, u2, rfl, er, hT⟩ := (jR h9 fun p hp => (N9 p (.tail _ (.tail _ (.tail _ (.tail _ (.tail _ (jS' p hp))))))).1).get e1'
    have hv9 : v9.length ≤ 1000 := l4 _ (List.mem_of_getElem? er)
    have hptl : (⟨pt.toArray⟩ : Str).length ≤ 1000 := by simpa [Str.length] using l3
    have hko := r1.key _ (List.mem_of_getElem? er)
    obtain ⟨kf1, kf2, kf3, kf4⟩ := keyFacts hko
    have hmem : (k9, rep v9 ⟨#[c]⟩ ⟨pt.toArray⟩) ∈ rows.map (repR c pt) ++ [(⟨#[c - 32]⟩, ⟨pt.toArray⟩)] := List.mem_append.mpr (.inl (List.mem_map.mpr ⟨_, List.mem_of_getElem? er, rfl⟩))
    have hv1 := r2.len _ hmem
    have hv2 := r2.pl _ hmem
    have lcur : (rows.drop i ++ (rows.take i).map (repR c pt)).length ≤ 3 := by
      have := r1.n
      simp
      omega
    have kcur : ∀ r ∈ rows.drop i ++ (rows.take i).map (repR c pt), r.1.length ≤ 1000 := fun r hr => by
      rcases List.mem_append.mp hr with hr | hr
      · exact (keyFacts (r1.key r (List.mem_of_mem_drop hr))).1
      · obtain ⟨r', h', rfl⟩ := List.mem_map.mp hr
        exact (keyFacts (r1.key r' (List.mem_of_mem_take h'))).1
    k_steps
    (with_reducible rename Fr g' _ _ _ => F1)
    (with_reducible rename News g' _ _ _ => N1)
    have R1 := jR' _ fun p hp => (N1 p (.tail _ (.tail _ (.tail _ (.tail _ (.tail _ hp)))))).1
    k_dflt (refine' setitem _ _ _ _ _ _ _ _ _ _ _ _ _ _ _ _ _ x dx l tkd hsh vs' nn' (rows.drop i ++ (rows.take i).map (repR c pt)) k9 (rep v9 ⟨#[c]⟩ ⟨pt.toArray⟩) _ _ B' F1 X' T' ?kK ?kd ?ku (News.sub N1 (sub3 (pre := [(I, o9), (D, listOf vs.toArray nD)]) (post := tups'))) R1 (by rw [R1.length]; omega) q1 q2 q3 kf1 kf2 kf3 kf4 hv1 hv2 kcur ?_; (case kK => first | exact rfl | assumption); (case kd => ktr_room); (case ku => ktr_units); k_whole)
    intro ys T2 n3 t3 t4 h3 tk3 F3 N3 R3 yl k3
    have offT := offCls N1 (.tail _ (.tail _ (.head _))) rfl (by decide) (fun p hp => .tail _ (.tail _ (.tail _ (.tail _ (.tail _ hp))))) jT'
    have N4 := reNews N1 N3 k3 (Nat.ne_of_gt (ltN (hI _ (.tail _ (.head _))))) (Nat.ne_of_gt D1) offT
    have jR4 := rowsIn_snoc jR' R3
    rw [rot_rows r1 er] at jR4
    clear N1 N3 k3 R1 F1
    (try dsimp only)
    k_steps
    refine Hold.mk ?_
    have jT4 : TupsOk ((T2, ({ cls := .type "tuple", data := .seq #[.str k9 t3, .str (rep v9 ⟨#[c]⟩ ⟨pt.toArray⟩) t4] } : Obj)) :: tups') := fun p hp => by
      rcases List.mem_cons.mp hp with rfl | hp
      · exact ⟨rfl, _, rfl⟩
      · exact jT' p hp
    refine endZT F3 N4 ((D, listOf vs.toArray nD) :: (tab3 185 x dx l tkd hsh (ys ++ [Value.ref T2]) n3 ++ (T2, ({ cls := .type "tuple", data := .seq #[.str k9 t3, .str (rep v9 ⟨#[c]⟩ ⟨pt.toArray⟩) t4] } : Obj)) :: tups')) (fun p hp => hp) ?_ ⟨by k_subL, _, _, _, rfl, jR4, jT4, fun p hp => .tail _ (jS' p hp), ?_, ?_, ?_, ?_, ?_⟩
    · intro p hp q hq
      rw [List.mem_singleton.mp hq]
      rcases List.mem_cons.mp hp with rfl | hp
      · exact Nat.ne_of_lt (hI _ (.head _))
      rcases List.mem_cons.mp hp with rfl | hp
      · exact Nat.ne_of_lt (ltN (hI (l, listOf vs.toArray nn) (.tail _ (.head _))))
      rcases List.mem_cons.mp hp with rfl | hp
      · exact Nat.ne_of_lt (hI _ (.tail _ (.tail _ (.head _))))
      rcases List.mem_cons.mp hp with rfl | hp
      · exact Nat.ne_of_lt (hI _ (.tail _ (.tail _ (.tail _ (.head _)))))
      · exact offCls (n := "list_iterator") N4 (.head _) ho9 (by decide) (fun p hp => .tail _ (.tail _ (.tail _ (.tail _ (.tail _ hp))))) jT4 p hp
    all_goals first | exact (if_neg (by decide)).trans ((if_neg (by decide)).trans (if_pos rfl)) | exact (if_neg (by decide)).trans ((if_neg (by decide)).trans ((if_neg (by decide)).trans (if_pos rfl))) | exact (if_neg (by decide)).trans ((if_neg (by decide)).trans ((if_neg (by decide)).trans ((if_neg (by decide)).trans (if_pos rfl)))) | exact (if_neg (by decide)).trans ((if_neg (by decide)).trans ((if_neg (by decide)).trans ((if_neg (by decide)).trans ((if_neg (by decide)).trans (if_pos rfl))))) | exact (if_neg (by decide)).trans ((if_neg (by decide)).trans ((if_neg (by decide)).trans ((if_neg (by decide)).trans ((if_neg (by decide)).trans ((if_neg (by decide)).trans (if_pos rfl))))))
  · intro m1 news1 j h9 tk9 F9 N9
    obtain ⟨vs', nn', tups', rfl, jR', jT', jS', j1, j2, j3, j4, j5⟩ := j
    rw [hvr, List.drop_length, List.take_length, List.nil_append] at jR'
    obtain ⟨m1, rfl⟩ := see_eq j1
    replace j2 := see_in j2 (by decide)
    replace j3 := see_in j3 (by decide)
    replace j4 := see_in j4 (by decide)
    replace j5 := see_in j5 (by decide)
    obtain ⟨m1, rfl⟩ := see_eq j2
    replace j3 := see_in j3 (by decide)
    replace j4 := see_in j4 (by decide)
    replace j5 := see_in j5 (by decide)
    obtain ⟨m1, rfl⟩ := see_eq j3
    replace j4 := see_in j4 (by decide)
    replace j5 := see_in j5 (by decide)
    obtain ⟨m1, rfl⟩ := see_eq j4
    replace j5 := see_in j5 (by decide)
    obtain ⟨m1, rfl⟩ := see_eq j5
    clear j1 j2 j3 j4 j5
    (try simp only [List.cons_append, List.nil_append] at N9)
    have hptl : (⟨pt.toArray⟩ : Str).length ≤ 1000 := by simpa [Str.length] using l3
    have hup : Txt.upper ⟨#[c]⟩ = ⟨#[c - 32]⟩ := by rcases hc with rfl | rfl | rfl <;> decide +kernel
    have hcl : (⟨#[c]⟩ : Str).length ≤ 1 := Nat.le_refl 1
    have hupl : (Txt.upper ⟨#[c]⟩).length ≤ 1000 := by rw [hup]; exact Nat.le_of_ble_eq_true rfl
    have hku : KeyOk ⟨#[c - 32]⟩ := r2.key _ (List.mem_append.mpr (.inr (.head _)))
    obtain ⟨kf1, kf2, kf3, kf4⟩ := keyFacts hku
    have kcur : ∀ r ∈ rows.map (repR c pt), KeyOk r.1 := fun r hr => r2.key r (List.mem_append.mpr (.inl hr))
    have kne : ∀ r ∈ rows.map (repR c pt), r.1 ≠ ⟨#[c - 32]⟩ := fun r hr e => by
      have nd := r2.nd
      rw [List.map_append] at nd
      exact (List.nodup_append.mp nd).2.2 r.1 (List.mem_map_of_mem hr) _ (.head _) e
    have hfk := filt_keep hku kcur kne
    (try dsimp only)
    k_steps
    rw [hup]
    refine Hold.mk ?_
    (with_reducible rename Fr g' _ _ _ => F1)
    (with_reducible rename News g' _ _ _ => N1)
    have N1b := News.sub N1 (l' := (l, listOf vs'.toArray nn') :: (x, instObj 185 dx) :: (dx, hdrDict tkd hsh l) :: tups') (fun p hp => .tail _ hp)
    have R1 := jR' _ fun p hp => (N1b p (.tail _ (.tail _ (.tail _ hp)))).1
    k_dflt (refine' setitem _ _ _ _ _ _ _ _ _ _ _ _ _ _ _ _ _ x dx l tkd hsh vs' nn' (rows.map (repR c pt)) ⟨#[c - 32]⟩ ⟨pt.toArray⟩ _ _ B' F1 X' T' ?kK ?kd ?ku (News.sub N1b (sub3 (pre := []) (post := tups'))) R1 (by rw [R1.length, List.length_map, ← hvr]; omega) q1 q2 q3 kf1 kf2 kf3 kf4 (by omega) hp (fun r hr => (keyFacts (kcur r hr)).1) ?_; (case kK => first | exact rfl | assumption); (case kd => ktr_room); (case ku => ktr_units); k_whole)
    intro ys T2 n3 t3 t4 h3 tk3 F3 N3 R3 yl k3
    have offT := offCls N1b (.head _) rfl (by decide) (fun p hp => .tail _ (.tail _ (.tail _ hp))) jT'
    have N4 := reNews0 N1b N3 k3 offT
    have jR4 := rowsIn_snoc jR' R3
    rw [hfk] at jR4
    have jT4 : TupsOk ((T2, ({ cls := .type "tuple", data := .seq #[.str ⟨#[c - 32]⟩ t3, .str ⟨pt.toArray⟩ t4] } : Obj)) :: tups') := fun p hp => by
      rcases List.mem_cons.mp hp with rfl | hp
      · exact ⟨rfl, _, rfl⟩
      · exact jT' p hp
    clear N1 N1b N3 k3 R1 F1
    (try dsimp only)
    k_steps
    (with_reducible rename Fr g' _ _ _ => F8)
    (with_reducible rename News g' _ _ _ => N8)
    exact hret _ _ _ (ys ++ [Value.ref T2]) n3 ((T2, ({ cls := .type "tuple", data := .seq #[.str ⟨#[c - 32]⟩ t3, .str ⟨pt.toArray⟩ t4] } : Obj)) :: tups') _ _ F8 N8 jR4 jT4 ((if_neg (by decide)).trans ((if_neg (by decide)).trans (if_pos rfl))) ((if_neg (by decide)).trans (if_pos rfl)) (if_pos rfl)
end Mine
end
section
open PySem PySem.W PyProof.Rows
set_option Elab.async false
set_option maxRecDepth 100000
set_option maxHeartbeats 2000000
set_option pp.deepTerms true
set_option pp.proofs false
namespace Mine
local macro_rules | `(tactic| walk_at "none at all") => `(tactic| fail)
local macro_rules | `(tactic| walk_at "none at all") => `(tactic| fail)
local macro_rules | `(tactic| walk_at "none at all") => `(tactic| fail)
local macro_rules | `(tactic| walk_at "none at all") => `(tactic| fail)
local macro_rules | `(tactic| walk_at "ent") => `(tactic| ((case kA => exact rfl); (case kF => exact rfl); (case kK => assumption); (case k1 => k_asm); (case k2 => k_asm); (case k3 => k_asm); (case k5 => k_asm); (case k6 => k_is); (case k7 => k_is); (case k8 => ktr_room); (case k9 => exact BindsTo.of_eq rfl); (case c5 => decide); (case kB => exact locs rfl); (case c2 => exact rfl); (case c3 => exact rfl); (case c4 => exact rfl); k_whole))
local macro_rules | `(tactic| walk_at "exec While") => `(tactic| (k_here; refine Hold.out ?_))
local macro_rules | `(tactic| walk_at "exec While Compare cons nil") => `(tactic| (k_here; refine Hold.out ?_))
local macro_rules | `(tactic| walk_at "call ref") => `(tactic| (k_here; (with_reducible show wpAny _ _ (call (Value.ref 185) _ _) _ _ _); refine Hold.out ?_))
local macro_rules | `(tactic| walk_at "eval ListComp") => `(tactic| (k_here; k_dflt (refine ListComp_W (F₀ := by k_asm) (by with_unfolding_all rfl) (by decide) (by rfl) (by decide) (by rfl) (by rfl) (by decide) ?_)))
local macro_rules | `(tactic| walk_at "call type:zip") => `(tactic| (k_here; refine Hold.out ?_))
local macro_rules | `(tactic| walk_at "call builtin:list.index") => `(tactic| (k_here; refine Hold.out ?_))
local macro_rules | `(tactic| walk_at "call ref") => `(tactic| (k_here; (with_reducible show wpAny _ _ (call (Value.ref 201) _ _) _ _ _); refine Hold.out ?_))
local macro_rules | `(tactic| walk_at "call ref") => `(tactic| (k_here; (with_reducible show wpAny _ _ (call (Value.ref 52) _ _) _ _ _); refine Hold.out ?_))
local macro_rules | `(tactic| walk_at "execs cons") => `(tactic| (k_here; (with_reducible show wpAny _ _ (execs (Stmt.For _ (PySem.Expr.Call _ _ _ _) _ [] _ :: _) _) _ _ _); refine Hold.out ?_))
theorem ws_ret {h₀ : Heap} {L : Addr} {s s₃ : Shared} {J : Nat → (Str → Option Value) → List (Addr × Obj) → Prop} {Q : Flow → Shared → Prop} {n : Nat} {v : Value} (h : Q (.ret v) s₃) : WhileStep2 h₀ L s J Q n (.ret v) s₃ := h
theorem ltable {w : World} {p : Program} {loose : List Str} {mean : ExcName → Option Value} {mg mb : Str → Option Value} (Inv : Nat → Str → Str → List (Str × Str) → Prop) (Bad : Prop) (M : Mach Inv Bad) (k₀ : Nat) (one other : Str) (t u : Tok) (h0 : Inv k₀ one other [])
    (dp un : Nat) (gd : Option (List Code)) (cn : Str) (cs : Scope) (a : Addr) (ccd : Value) (cl : List (Str × Addr)) (outer : List Env) (A₀ : Around) (base h₀ : Heap) (L : Addr) (m : Str → Option Value) (s : Shared) (Q E : Value → Shared → Prop)
    (B : Below A₀ base outer h₀) (F : Fr h₀ L s.heap m) (X : (hd3.heap_39 w.params).In h₀) (T : Top p loose mean mg mb h₀) (hk : cs.kind = .function) (hd : dp + 100 < recursionLimit) (hu : un + 1000 < cLine)
    (hbad : ∀ h' tk', Fr h₀ L h' m → (∀ b o, s.heap.get? b = some o → h'.get? b = some o) → Bad → Q .none { s with heap := h', toks := tk' })
    (hret : ∀ x dx l tkd hsh vs n rows k b tups h' tk', Fr h₀ L h' m → (∀ b o, s.heap.get? b = some o → h'.get? b = some o) → News h₀ L h' (tab3 185 x dx l tkd hsh vs n ++ tups) → (∀ g, (∀ p ∈ tups, g.get? p.1 = some p.2) → RowsAt g vs rows) → TupsOk tups → x < l → dx < l → dx < x → Inv k b b rows → Q (.ref x) { s with heap := h', toks := tk' }) :
    wpAny (model PySem.Challenge.rw_pg0249_03.row.prog w) (ktrTop dp un gd cn cs L a ccd cl outer) (call (.ref 206) [.str one t, .str other u]) Q E s := by
  revert X; k_fill; intro X
  refine wpAny_call ?_
  have N : News h₀ L s.heap [] := News.nil
  k_dflt (refine' code_sub (binds := [(Str.ofString "one", .str one t), (Str.ofString "other", .str other u)]) ?k1 ?k2 ?k3 N ?k5 ?kA ?kF ?kK ?k6 ?k7 ?k8 ?k9 ?kB ?_ ?c2 ?c3 ?c4 ?c5; walk_at "ent")
  intro g' L' h' tk' hk0 _ FG' F' N' B' X' T'
  replace hk0 : ∀ b o, s.heap.get? b = some o → g'.get? b = some o := fun b o e => hk0 b o e (by intro hb; cases hb)
  (try dsimp only)
  with_reducible show wpAny _ _ _ _ _ _
  k_fold
  k_steps
  refine Hold.mk ?_
  (with_reducible rename Fr g' _ _ _ => F1)
  (with_reducible rename News g' _ _ _ => N1)
  k_dflt (refine' mkTable _ _ _ _ _ _ _ _ _ _ _ _ _ _ _ _ _ B' F1 X' T' ?kK ?kd ?ku ?_; (case kK => first | exact rfl | assumption); (case kd => ktr_room); (case ku => ktr_units); k_whole)
  clear F1 N1
  intro x dx l tkd hsh h1 tk1 F1 N1 q1 q2 q3
  (try dsimp only)
  k_steps
  refine Hold.mk ?_
  (with_reducible rename Fr g' _ _ _ => F1)
  (with_reducible rename News g' _ _ _ => N1)
  refine While_inv2 (n₀ := k₀) (fun n m' news => ∃ o1 o2 rows vs nn tups e1 e2, news = tab3 185 x dx l tkd hsh vs nn ++ tups ∧ RowsIn tups vs rows ∧ TupsOk tups ∧ Inv n o1 o2 rows ∧ m' (Str.ofString "table") = some (.ref x) ∧ m' (Str.ofString "one") = some (.str o1 e1) ∧ m' (Str.ofString "other") = some (.str o2 e2)) F1 N1 ⟨one, other, [], [], 0, [], t, u, rfl, (fun _ _ => .nil), (fun _ h => nomatch h), h0, rfl, rfl, rfl⟩ ?_
  clear F1 N1
  intro n m1 news1 h1 tk1 F1 N1 J1
  obtain ⟨o1, o2, rows, vs, nn, tups, e1, e2, rfl, jR, jT, jI, j1, j2, j3⟩ := J1
  obtain ⟨m1, rfl⟩ := see_eq j1
  replace j2 := see_in j2 (by decide)
  replace j3 := see_in j3 (by decide)
  obtain ⟨m1, rfl⟩ := see_eq j2
  replace j3 := see_in j3 (by decide)
  obtain ⟨m1, rfl⟩ := see_eq j3
  clear j1 j2 j3
  (try simp only [List.cons_append, List.nil_append] at N1)
  have jA := M.asc _ _ _ _ jI
  have jL := M.len _ _ _ _ jI
  have jRo := M.rows _ _ _ _ jI
  k_steps
  · have hne : o1 ≠ o2 := by
      (with_reducible rename (o1 != o2) = true => hne)
      simpa using hne
    obtain ⟨pre, q1', q2', r1, r2, C⟩ := M.cut _ _ _ _ jI hne
    obtain ⟨c1, c2, c3⟩ := cut_at C
    have lL1 : o1.cps.size ≤ 200000 := jL.1
    have hbl : (eqs o1 o2 (min o1.cps.size o2.cps.size)).length ≤ 1000000 := by unfold eqs; simp; omega
    refine Hold.mk ?_
    refine SrcW.callSS (n := min o1.cps.size o2.cps.size) (J := fun i ys => ys = (eqs o1 o2 i).map Value.bool) (by rfl) (by k_asm) (by k_asm) jA.1 jA.2 (by rw [sizeLine_eq]; omega) rfl (by simp [eqs]) ?_ ?_
    · intro z TI TO i1 i2 i ys' c d u₁ u₂ g e1' e2' j hyl oz oTI oTO o1' o2' C' oC D m₂ h tk E' hC hx hx2 F N
      subst j
      refine wpAny_tests_nil ?_
      rw [if_pos rfl]
      k_steps
      refine TurnEnd.intro (by k_asm) N (fun _ hp => hp) ?_
      rw [eqs_succ e1' e2', List.map_append, sign_eq]
      rfl
    · intro D ys9 h9 tk9 j9 F9 N9 off9
      subst j9
      k_steps
      refine Hold.mk ?_
      refine index_bools (N9 _ (.head _)).1 hbl c2 c3 ?_
      have N8 : News g' L' h9 ((l, listOf vs.toArray nn) :: (x, instObj 185 dx) :: (dx, hdrDict tkd hsh l) :: tups) := fun p hp => N9 p (.tail _ hp)
      clear N9 off9
      k_steps
      refine Hold.mk ?_
      (with_reducible rename Fr g' _ _ _ => F7)
      k_dflt (refine' part o1 _ _ pre q1' r1 C.ha C.tp jL.1 _ _ _ _ _ _ _ _ _ _ _ _ _ _ _ _ _ B' F7 X' T' ?kK ?kd ?ku trivial ?_; (case kK => first | exact rfl | assumption); (case kd => ktr_room); (case ku => ktr_units); k_whole)
      (with_reducible rename News _ _ _ _ => N7)
      intro t6 h6 tk6 F6 k6
      replace N7 := news_kept N7 k6
      clear k6 F7
      (try dsimp only)
      k_steps
      refine Hold.mk ?_
      (with_reducible rename Fr g' _ _ _ => F7)
      k_dflt (refine' part o2 _ _ pre q2' r2 C.hb C.tq jL.2 _ _ _ _ _ _ _ _ _ _ _ _ _ _ _ _ _ B' F7 X' T' ?kK ?kd ?ku trivial ?_; (case kK => first | exact rfl | assumption); (case kd => ktr_room); (case ku => ktr_units); k_whole)
      (with_reducible rename News _ _ _ _ => N7)
      intro t5 h5 tk5 F5 k5
      replace N7 := news_kept N7 k5
      clear k5 F7
      (try dsimp only)
      have vp := occ_xyz C.tp
      have vq := occ_xyz C.tq
      k_steps
      · (with_reducible rename (Builtin.Str.occurrences (Str.ofString "xyz") ⟨q1'.toArray⟩ _ _ _).isEmpty = true => a1)
        (with_reducible rename (Builtin.Str.occurrences (Str.ofString "xyz") ⟨q2'.toArray⟩ _ _ _).isEmpty = true => a2)
        have hb := M.bad _ _ _ _ _ _ _ _ _ jI C (by rw [vp] at a1; simpa using a1) (by rw [vq] at a2; simpa using a2)
        refine ws_ret ?_
        (try dsimp only)
        k_steps
        (with_reducible rename Fr h₀ L _ m => kF)
        (with_reducible rename Fr g' _ _ _ => gF)
        exact hbad _ _ kF (fun b o e => gF.keep b o (hk0 b o e)) hb
      · (with_reducible rename (Builtin.Str.occurrences (Str.ofString "xyz") ⟨q1'.toArray⟩ _ _ _).isEmpty = true => a1)
        (with_reducible rename (Builtin.Str.occurrences (Str.ofString "xyz") ⟨q2'.toArray⟩ _ _ _).isEmpty = false => a2)
        have p1 : isV q1' = false := by rw [vp] at a1; simpa using a1
        have p2 : isV q2' = true := by rw [vq] at a2; simpa using a2
        obtain ⟨c, rfl, hc⟩ := isV_get p2
        obtain ⟨s1, s2, s3⟩ := M.small _ _ _ _ _ _ _ _ _ jI C (.inr p2)
        have s4 : q1'.length ≤ 1000 := by
          have : o1.length = o1.cps.toList.length := by simp [Str.length]
          rw [C.ha] at this
          simp at this
          omega
        clear a1 a2 vp vq
        have ec : ([c] : List Nat).toArray = #[c] := rfl
        rw [ec]
        have hcl : (⟨#[c]⟩ : Str).length ≤ 1 := Nat.le_refl 1
        k_steps
        refine Hold.mk ?_
        (with_reducible rename Fr g' _ _ _ => F1)
        k_dflt (refine' em3 _ _ ⟨#[c]⟩ _ _ (want_in hc) (want_split hc) ?hl ?hg rfl _ _ _ _ _ _ _ _ _ _ _ _ _ _ _ _ _ B' F1 X' T' ?kK ?kd ?ku trivial ?_; (case kK => first | exact rfl | assumption); (case kd => ktr_room); (case ku => ktr_units); (case hl => (have h3 : (Str.ofString "...").length = 3 := rfl; omega)); (case hg => simpa [Str.length] using s4); k_whole)
        (with_reducible rename News _ _ _ _ => N7)
        intro t4 h4 tk4 F4' k4
        replace N7 := news_kept N7 k4
        clear k4 F1
        (try dsimp only)
        rw [F4_one]
        by_cases hcin : c ∈ q1'
        · rw [decide_eq_true (show c ∈ (⟨q1'.toArray⟩ : Str).cps.toList by simpa using hcin)]
          have hb := M.occ _ _ _ _ _ _ _ _ _ c jI C (.inr ⟨rfl, p1, p2, hcin⟩)
          k_steps
          refine ws_ret ?_
          (try dsimp only)
          k_steps
          (with_reducible rename Fr h₀ L _ m => kF)
          (with_reducible rename Fr g' _ _ _ => gF)
          exact hbad _ _ kF (fun b o e => gF.keep b o (hk0 b o e)) hb
        · rw [decide_eq_false (show ¬ c ∈ (⟨q1'.toArray⟩ : Str).cps.toList by simpa using hcin)]
          obtain ⟨g1, g2, g3⟩ := M.step _ _ _ _ _ _ _ _ _ c q1' jI C (.inr ⟨rfl, p1, p2, rfl⟩) hcin
          have g4 := M.rows _ _ _ _ g3
          k_steps
          refine Hold.mk ?_
          (with_reducible rename Fr g' _ _ _ => F1)
          (with_reducible rename News _ _ _ _ => N7)
          have N8 : News g' L' _ (tab3 185 x dx l tkd hsh vs nn ++ tups) := News.sub N7 (fun p hp => .tail _ (.tail _ hp))
          with_unfolding_all refine' ttail dp un gd cn cs a ccd cl outer base g' L L' _ _ _ _ x dx l tkd hsh vs nn rows tups o1 o2 c q1' _ _ _ _ B' F1 X' T' hk hd hu N8 jR jT q1 q2 q3 ?n1 ?n2 ?n3 ?n4 ?n5 hc s1 s2 s4 s3 jRo g4 g2 ?nE ?nR
          case n1 => repeat (first | exact if_pos rfl | refine (if_neg (by decide)).trans ?_)
          case n2 => repeat (first | exact if_pos rfl | refine (if_neg (by decide)).trans ?_)
          case n3 => repeat (first | exact if_pos rfl | refine (if_neg (by decide)).trans ?_)
          case n4 => repeat (first | exact if_pos rfl | refine (if_neg (by decide)).trans ?_)
          case n5 => repeat (first | exact if_pos rfl | refine (if_neg (by decide)).trans ?_)
          case nE => first | assumption | passes_own
          case nR =>
            intro m' h3 tk3 vs' nn' tups' e1' e2' F3 N3 jR3 jT3 b1 b2 b3
            (try dsimp only)
            exact ⟨_, _, _, _, n - 1, rfl, F3, N3, by omega, _, _, _, _, _, _, _, _, rfl, jR3, jT3, g3, b1, b2, b3⟩
      · (with_reducible rename (Builtin.Str.occurrences (Str.ofString "xyz") ⟨q1'.toArray⟩ _ _ _).isEmpty = false => a1)
        have p1 : isV q1' = true := by rw [vp] at a1; simpa using a1
        obtain ⟨c, rfl, hc⟩ := isV_get p1
        obtain ⟨s1, s2, s3⟩ := M.small _ _ _ _ _ _ _ _ _ jI C (.inl p1)
        have s4 : q2'.length ≤ 1000 := by
          have : o2.length = o2.cps.toList.length := by simp [Str.length]
          rw [C.hb] at this
          simp at this
          omega
        clear a1 vp vq
        have ec : ([c] : List Nat).toArray = #[c] := rfl
        rw [ec]
        have hcl : (⟨#[c]⟩ : Str).length ≤ 1 := Nat.le_refl 1
        k_steps
        refine Hold.mk ?_
        (with_reducible rename Fr g' _ _ _ => F1)
        k_dflt (refine' em3 _ _ ⟨#[c]⟩ _ _ (want_in hc) (want_split hc) ?hl ?hg rfl _ _ _ _ _ _ _ _ _ _ _ _ _ _ _ _ _ B' F1 X' T' ?kK ?kd ?ku trivial ?_; (case kK => first | exact rfl | assumption); (case kd => ktr_room); (case ku => ktr_units); (case hl => (have h3 : (Str.ofString "...").length = 3 := rfl; omega)); (case hg => simpa [Str.length] using s4); k_whole)
        (with_reducible rename News _ _ _ _ => N7)
        intro t4 h4 tk4 F4' k4
        replace N7 := news_kept N7 k4
        clear k4 F1
        (try dsimp only)
        rw [F4_one]
        by_cases hcin : c ∈ q2'
        · rw [decide_eq_true (show c ∈ (⟨q2'.toArray⟩ : Str).cps.toList by simpa using hcin)]
          have hb := M.occ _ _ _ _ _ _ _ _ _ c jI C (.inl ⟨rfl, p1, hcin⟩)
          k_steps
          refine ws_ret ?_
          (try dsimp only)
          k_steps
          (with_reducible rename Fr h₀ L _ m => kF)
          (with_reducible rename Fr g' _ _ _ => gF)
          exact hbad _ _ kF (fun b o e => gF.keep b o (hk0 b o e)) hb
        · rw [decide_eq_false (show ¬ c ∈ (⟨q2'.toArray⟩ : Str).cps.toList by simpa using hcin)]
          obtain ⟨g1, g2, g3⟩ := M.step _ _ _ _ _ _ _ _ _ c q2' jI C (.inl ⟨rfl, p1, rfl⟩) hcin
          have g4 := M.rows _ _ _ _ g3
          k_steps
          refine Hold.mk ?_
          (with_reducible rename Fr g' _ _ _ => F1)
          (with_reducible rename News _ _ _ _ => N7)
          have N8 : News g' L' _ (tab3 185 x dx l tkd hsh vs nn ++ tups) := News.sub N7 (fun p hp => .tail _ hp)
          with_unfolding_all refine' ttail dp un gd cn cs a ccd cl outer base g' L L' _ _ _ _ x dx l tkd hsh vs nn rows tups o1 o2 c q2' _ _ _ _ B' F1 X' T' hk hd hu N8 jR jT q1 q2 q3 ?n1 ?n2 ?n3 ?n4 ?n5 hc s1 s2 s4 s3 jRo g4 g2 ?nE ?nR
          case n1 => repeat (first | exact if_pos rfl | refine (if_neg (by decide)).trans ?_)
          case n2 => repeat (first | exact if_pos rfl | refine (if_neg (by decide)).trans ?_)
          case n3 => repeat (first | exact if_pos rfl | refine (if_neg (by decide)).trans ?_)
          case n4 => repeat (first | exact if_pos rfl | refine (if_neg (by decide)).trans ?_)
          case n5 => repeat (first | exact if_pos rfl | refine (if_neg (by decide)).trans ?_)
          case nE => first | assumption | passes_own
          case nR =>
            intro m' h3 tk3 vs' nn' tups' e1' e2' F3 N3 jR3 jT3 b1 b2 b3
            (try dsimp only)
            exact ⟨_, _, _, _, n - 1, rfl, F3, N3, by omega, _, _, _, _, _, _, _, _, rfl, jR3, jT3, g3, b1, b2, b3⟩
  · have he : o1 = o2 := by
      (with_reducible rename (o1 != o2) = false => he)
      simpa using he
    subst he
    (with_reducible rename Fr h₀ L _ m => kF)
    (with_reducible rename Fr g' _ _ _ => gF)
    (with_reducible rename News h₀ L _ _ => kN)
    exact hret x dx l tkd hsh vs nn rows n o1 tups _ _ kF (fun b o e => gF.keep b o (hk0 b o e)) kN jR jT q1 q2 q3 jI
end Mine
end
section
open PySem PySem.W PyProof.Rows
set_option Elab.async false
set_option maxRecDepth 100000
set_option maxHeartbeats 8000000
set_option pp.deepTerms true
set_option pp.proofs false
namespace Mine
def lawBody : List Stmt := lastBody PySem.Challenge.pw_pg0249_03.main.body
def lawScope : Scope := lastScope PySem.Challenge.pw_pg0249_03.main.body
abbrev lawE (L fa : Addr) (cdv : Value) : Env := envOfC (Str.ofString "law") lawScope L fa cdv
abbrev lawA (L fa : Addr) (cdv : Value) : Around := callerA.deeper (lawE L fa cdv)
theorem addNe (n : Nat) {a b : Nat} (h : a ≠ b) : n + a ≠ n + b := by omega
theorem updF_mk {d : Addr} {o : Obj} {pre post : List (Addr × Obj)} (a : ∀ p ∈ pre, p.1 ≠ d) (c : ∀ p ∈ post, p.1 ≠ d) : UpdF d o (pre ++ (d, o) :: post) (fun o' => pre ++ (d, o') :: post) := by
  induction pre with
  | nil => exact .head c
  | cons p r ih => exact .tail (a p (.head _)) (ih fun q hq => a q (.tail _ hq))
theorem offCell {h₀ h : Heap} {L a : Addr} {o : Obj} {v : Option Value} {news : List (Addr × Obj)} (N : News h₀ L h news) (ho : (a, o) ∈ news) (hd : o.data = .cell v) {p : Addr × Obj} (hp : p ∈ news) (hn : ∀ v, p.2.data ≠ .cell v) : p.1 ≠ a := by
  intro e
  have z := (N p hp).1
  rw [e, (N _ ho).1] at z
  rw [← Option.some.inj z] at hn
  exact hn v hd
/-- what no cell is -/
def NoCell (l : List (Addr × Obj)) : Prop := ∀ p ∈ l, ∀ v, p.2.data ≠ .cell v
theorem noCell_tab {C x dx l : Addr} {tk : Tok} {hsh : Int} {vs : List Value} {n : Nat} {tups : List (Addr × Obj)} (h : TupsOk tups) : NoCell (tab3 C x dx l tk hsh vs n ++ tups) := by
  intro p hp v e
  rcases List.mem_append.mp hp with hp | hp
  · rcases List.mem_cons.mp hp with rfl | hp
    · cases e
    rcases List.mem_cons.mp hp with rfl | hp
    · cases e
    rcases List.mem_cons.mp hp with rfl | hp
    · cases e
    · cases hp
  · obtain ⟨_, a, h'⟩ := h p hp
    rw [h'] at e
    cases e
/-- the law's four cells -/
abbrev cells (L : Addr) (c1 c2 c3 c4 : Obj) : List (Addr × Obj) := [(L + 4, c4), (L + 3, c3), (L + 2, c2), (L + 1, c1)]
structure IsC (o : Obj) (v : Option Value) : Prop where
  d : o.data = .cell v
local macro_rules | `(tactic| walk_at "storeName") => `(tactic| (k_here; k_dflt (refine' storeX_C ?F ?N ?c ?U ?d ?_ ?a ?b; (case a => rfl); (case b => rfl); (case F => k_asm); (case N => k_asm); (case c => rfl); (case U => assumption); (case d => k_asm); k_whole); intro h' o' F' N' d'; (try dsimp only at N')))
local macro_rules | `(tactic| walk_at "call ref") => `(tactic| (k_here; (with_reducible show wpAny _ _ (call (Value.ref 206) _ _) _ _ _); refine Hold.out ?_))
theorem updCell {h₀ h : Heap} {L : Addr} {pre post : List (Addr × Obj)} {a : Addr} {o : Obj} {v : Option Value} (N : News h₀ L h (pre ++ (a, o) :: post)) (hd : o.data = .cell v) (h1 : ∀ p ∈ pre, p.1 ≠ a) (h2 : ∀ p ∈ post, p.1 ≠ a ∨ ∀ v, p.2.data ≠ .cell v) : UpdF a o (pre ++ (a, o) :: post) (fun o' => pre ++ (a, o') :: post) := by
  refine updF_mk h1 fun p hp => ?_
  rcases h2 p hp with h | h
  · exact h
  · exact offCell N (List.mem_append.mpr (.inr (.head _))) hd (List.mem_append.mpr (.inr (.tail _ hp))) h
theorem s1 {w : World} {p : Program} {loose : List Str} {mean : ExcName → Option Value} {mg mb : Str → Option Value} (Inv : Nat → Str → Str → List (Str × Str) → Prop) (Bad : Prop) (M : Mach Inv Bad) (k₀ : Nat) (one other : Str) (t u : Tok) (h0 : Inv k₀ one other [])
    (fa : Addr) (cdv : Value) (base h₀ : Heap) (L : Addr) (m : Str → Option Value) (s : Shared) (Q : Flow → Shared → Prop) (E : Value → Shared → Prop) (c1 c2 c3 c4 : Obj)
    (B : Below callerA base [] h₀) (F : Fr h₀ L s.heap m) (X : (hd3.heap_39 w.params).In h₀) (T : Top p loose mean mg mb h₀) (N : News h₀ L s.heap (cells L c1 c2 c3 c4)) (d1 : ∃ v, c1.data = .cell v)
    (hm1 : m (Str.ofString "one") = some (.str one t)) (hm2 : m (Str.ofString "other") = some (.str other u))
    (hbad : ∀ h tk c1', c1'.data = .cell (some .none) → Bad → Fr h₀ L h m → News h₀ L h (cells L c1' c2 c3 c4) → Q .next { s with heap := h, toks := tk })
    (hret : ∀ x dx l tkd hsh vs n rows k b tups h tk c1', c1'.data = .cell (some (.ref x)) → Fr h₀ L h m → News h₀ L h (cells L c1' c2 c3 c4 ++ (tab3 185 x dx l tkd hsh vs n ++ tups)) → RowsIn tups vs rows → TupsOk tups → x < l → dx < l → dx < x → Inv k b b rows → Q .next { s with heap := h, toks := tk }) :
    wpAny (model PySem.Challenge.rw_pg0249_03.row.prog w) (lawA L fa cdv) (exec (nthS lawBody 1) (lawE L fa cdv)) Q E s := by
  revert X; k_fill; intro X
  have eS : lawScope = lawScope := rfl
  have eB : nthS lawBody 1 = nthS lawBody 1 := rfl
  (conv at eS => rhs; whnf)
  (conv at eB => rhs; whnf)
  unfold lawA lawE
  rw [eS, eB]
  clear eS eB
  obtain ⟨v1, d1⟩ := d1
  obtain ⟨m', e⟩ := see_eq hm1
  have hm2' := hm2
  rw [e] at hm2'
  replace hm2' := see_in hm2' (by decide)
  obtain ⟨m'', e'⟩ := see_eq hm2'
  rw [e'] at e
  subst e'
  subst e
  k_steps
  have ne4 : L + 4 ≠ L + 1 := addNe L (by decide)
  have ne3 : L + 3 ≠ L + 1 := addNe L (by decide)
  have ne2 : L + 2 ≠ L + 1 := addNe L (by decide)
  have hpre : ∀ p ∈ [(L + 4, c4), (L + 3, c3), (L + 2, c2)], p.1 ≠ L + 1 := fun p hp => by
    rcases List.mem_cons.mp hp with rfl | hp
    · exact ne4
    rcases List.mem_cons.mp hp with rfl | hp
    · exact ne3
    rcases List.mem_cons.mp hp with rfl | hp
    · exact ne2
    · cases hp
  refine Hold.mk ?_
  (with_reducible rename Fr _ _ _ _ => F1)
  (with_reducible rename News _ _ _ _ => N1)
  replace F1 : Fr h₀ L _ _ := F1
  replace N1 : News h₀ L _ _ := N1
  k_dflt (refine' ltable Inv Bad M k₀ one other _ _ h0 _ _ _ _ _ _ _ _ _ _ _ _ _ _ _ _ _ B F1 X T ?kK ?kd ?ku ?r1 ?r2; (case kK => first | exact rfl | assumption); (case kd => ktr_room); (case ku => ktr_units))
  case r1 =>
    k_whole
    intro h2 tk2 F2 k2 hb
    have N2 := news_kept N1 k2
    have hU := updCell (pre := [(L + 4, c4), (L + 3, c3), (L + 2, c2)]) (post := []) N2 d1 hpre (fun p hp => nomatch hp)
    simp only [List.cons_append, List.nil_append] at hU
    clear N1 F1 k2
    (try dsimp only)
    k_steps
    (with_reducible rename Fr _ _ _ _ => F3)
    (with_reducible rename News _ _ _ _ => N3)
    exact hbad _ _ _ (by assumption) hb F3 N3
  case r2 =>
    k_whole
    intro x dx l tkd hsh vs n rows k b tups h2 tk2 F2 k2 N2 jR jT q1 q2 q3 jI
    have N3 : News h₀ L h2 (cells L c1 c2 c3 c4 ++ (tab3 185 x dx l tkd hsh vs n ++ tups)) := fun p hp => by
      rcases List.mem_append.mp hp with hp | hp
      · exact news_kept N1 k2 p hp
      · exact N2 p hp
    have hU := updCell (pre := [(L + 4, c4), (L + 3, c3), (L + 2, c2)]) (post := tab3 185 x dx l tkd hsh vs n ++ tups) N3 d1 hpre (fun p hp => .inr (noCell_tab jT p hp))
    clear N1 N2 F1 k2
    simp only [List.cons_append, List.nil_append] at hU N3
    (try dsimp only)
    k_steps
    (with_reducible rename Fr _ _ _ _ => F4)
    (with_reducible rename News _ _ _ _ => N4)
    exact hret x dx l tkd hsh vs n rows k b tups _ _ _ (by assumption) F4 N4 (fun g hg => jR g hg) jT q1 q2 q3 jI
end Mine
end
section
open PySem PySem.W PyProof.Rows
set_option Elab.async false
set_option maxRecDepth 100000
set_option maxHeartbeats 8000000
set_option pp.deepTerms true
set_option pp.proofs false
namespace Mine
local macro_rules | `(tactic| walk_at "none at all") => `(tactic| fail)
local macro_rules | `(tactic| walk_at "none at all") => `(tactic| fail)
local macro_rules | `(tactic| walk_at "none at all") => `(tactic| fail)
local macro_rules | `(tactic| walk_at "none at all") => `(tactic| fail)
local macro_rules | `(tactic| walk_at "none at all") => `(tactic| fail)
local macro_rules | `(tactic| walk_at "none at all") => `(tactic| fail)
local macro_rules | `(tactic| walk_at "none at all") => `(tactic| fail)
local macro_rules | `(tactic| walk_at "none at all") => `(tactic| fail)
local macro_rules | `(tactic| walk_at "none at all") => `(tactic| fail)
local macro_rules | `(tactic| walk_at "none at all") => `(tactic| fail)
local macro_rules | `(tactic| walk_at "none at all") => `(tactic| fail)
local macro_rules | `(tactic| walk_at "none at all") => `(tactic| fail)
local macro_rules | `(tactic| walk_at "storeName") => `(tactic| (k_here; k_dflt (refine' storeX_C ?F ?N ?c ?U ?d ?_ ?a ?b; (case a => rfl); (case b => rfl); (case F => k_asm); (case N => k_asm); (case c => rfl); (case U => assumption); (case d => k_asm); k_whole); intro h' o' F' N' d'; (try dsimp only at N')))
local macro_rules | `(tactic| walk_at "call ref") => `(tactic| (k_here; (with_reducible first | show wpAny _ _ (call (Value.ref 211) _ _) _ _ _ | show wpAny _ _ (call (Value.ref 132) _ _) _ _ _); refine Hold.out ?_))
local macro_rules | `(tactic| walk_at "eval DictComp") => `(tactic| (k_here; refine Hold.out ?_))
theorem ltN3 {a b c d : Nat} (h1 : a < b) (h2 : b ≤ c) (h3 : c + 1 < d) : a < d := by omega
theorem nameFacts {c : Nat} (h : c = 120 ∨ c = 121 ∨ c = 122) : (⟨#[c]⟩ : Str).length ≤ 1000 ∧ (Txt.lower ⟨#[c]⟩).length ≤ 1000 ∧ Plain (Txt.lower ⟨#[c]⟩) := by
  rcases h with rfl | rfl | rfl
  · exact ⟨by decide, by decide, (keyFacts (.inl rfl)).2.2.1⟩
  · exact ⟨by decide, by decide, (keyFacts (.inr (.inl rfl))).2.2.1⟩
  · exact ⟨by decide, by decide, (keyFacts (.inr (.inr rfl))).2.2.1⟩
theorem xyzAt {i c : Nat} (h : (Str.ofString "xyz").cps[i]? = some c) : (c = 120 ∨ c = 121 ∨ c = 122) ∧ c ∉ [120, 121, 122].take i ∧ [120, 121, 122].take (i + 1) = [120, 121, 122].take i ++ [c] := by
  have hi : i < 3 := (Array.getElem?_eq_some_iff.mp h).1
  match i, hi, h with
  | 0, _, h => cases (show some 120 = some c from h); decide
  | 1, _, h => cases (show some 121 = some c from h); decide
  | 2, _, h => cases (show some 122 = some c from h); decide
theorem s2r {w : World} {p : Program} {loose : List Str} {mean : ExcName → Option Value} {mg mb : Str → Option Value} (one other : Str) (t u : Tok)
    (fa : Addr) (cdv : Value) (base h₀ : Heap) (L : Addr) (m : Str → Option Value) (s : Shared) (Q : Flow → Shared → Prop) (E : Value → Shared → Prop) (c1 c2 c3 c4 : Obj)
    (x dx l : Addr) (tkd : Tok) (hsh : Int) (vs : List Value) (n : Nat) (rows : List (Str × Str)) (tups : List (Addr × Obj))
    (B : Below callerA base [] h₀) (F : Fr h₀ L s.heap m) (X : (hd3.heap_39 w.params).In h₀) (T : Top p loose mean mg mb h₀) (N : News h₀ L s.heap (cells L c1 c2 c3 c4 ++ (tab3 185 x dx l tkd hsh vs n ++ tups))) (d1 : c1.data = .cell (some (.ref x))) (d2 : ∃ v, c2.data = .cell v)
    (jR : RowsIn tups vs rows) (jT : TupsOk tups) (q1 : x < l) (q2 : dx < l) (q3 : dx < x) (hv : vs.length ≤ 1000) (hr : ∀ r ∈ rows, r.1.length ≤ 1000)
    (hm1 : m (Str.ofString "one") = some (.str one t)) (hm2 : m (Str.ofString "other") = some (.str other u))
    (hx1 : one.length ≤ 200000) (ha1 : one.cps.all (· < 128) = true) (hfl1 : ((one.cps.toList.map fun d => putF (fun k => getOf rows k k) ⟨#[d]⟩).map (·.length)).sum ≤ 16000000)
    (hx2 : other.length ≤ 200000) (ha2 : other.cps.all (· < 128) = true) (hfl2 : ((other.cps.toList.map fun d => putF (fun k => getOf rows k k) ⟨#[d]⟩).map (·.length)).sum ≤ 16000000)
    (heq : putOf (putF fun k => getOf rows k k) one = putOf (putF fun k => getOf rows k k) other)
    (hret : ∀ D oD kvs h tk c2', c2'.data = .cell (some (.ref D)) → oD.IsDictOf (strKind PySem.Challenge.rw_pg0249_03.row.prog w) kvs → KvsAre (fun k => getOf rows k k) [120, 121, 122] kvs → (D == sysModules) = false → L + 4 < D → Fr h₀ L h m → News h₀ L h (cells L c1 c2' c3 c4 ++ [(D, oD)]) → Q .next { s with heap := h, toks := tk }) :
    wpAny (model PySem.Challenge.rw_pg0249_03.row.prog w) (lawA L fa cdv) (exec (nthS lawBody 2) (lawE L fa cdv)) Q E s := by
  revert X; k_fill; intro X
  have eS : lawScope = lawScope := rfl
  have eB : nthS lawBody 2 = nthS lawBody 2 := rfl
  (conv at eS => rhs; whnf)
  (conv at eB => rhs; whnf)
  unfold lawA lawE
  rw [eS, eB]
  clear eS eB
  obtain ⟨v2, d2⟩ := d2
  obtain ⟨m', e⟩ := see_eq hm1
  have hm2' := hm2
  rw [e] at hm2'
  replace hm2' := see_in hm2' (by decide)
  obtain ⟨m'', e'⟩ := see_eq hm2'
  rw [e'] at e
  subst e'
  subst e
  simp only [List.cons_append, List.nil_append] at N
  k_steps
  refine Hold.mk ?_
  refine DictComp_S (F₀ := by k_asm) (by with_unfolding_all rfl) (by decide) (by rfl) (by decide) (by rfl) ?_
  k_whole
  k_steps
  refine SrcD.mk ⟨Str.ofString "xyz", _, _, fun i kvs => KvsAre (fun k => getOf rows k k) ([120, 121, 122].take i) kvs, rfl, by rfl, by k_asm, by k_asm, by decide +kernel, by rw [sizeLine_eq]; decide +kernel, .nil _, fun s₂ hs₂ => ?_, ?_⟩
  · obtain ⟨gg, rfl⟩ := hs₂
    intro i kvs v hv j I oI C oC D oD m₂ h tk E' hC hx F hod N off
    obtain ⟨c, u9, hc, rfl⟩ := hv
    obtain ⟨hc1, hc2, hc3⟩ := xyzAt hc
    (try simp only [LCg.Off3, and_true] at off)
    (try dsimp only)
    k_steps
    refine Hold.mk ?_
    obtain ⟨f1, f2, f3⟩ := nameFacts hc1
    (with_reducible rename Fr _ _ _ _ => F1)
    (with_reducible rename News _ _ _ _ => N1)
    have N2 : News h₀ L _ (tab3 185 x dx l tkd hsh vs n) := cb_drop N1 (fun p hp => .tail _ (.tail _ (.tail _ (.tail _ (.tail _ (.tail _ (.tail _ (List.mem_append_left tups hp))))))))
    have R : RowsAt _ vs rows := jR _ (fun p hp => (N1 p (.tail _ (.tail _ (.tail _ (.tail _ (.tail _ (.tail _ (.tail _ (List.mem_append_right (tab3 185 x dx l tkd hsh vs n) hp))))))))).1)
    k_dflt (refine' get _ _ _ _ _ _ _ _ _ _ _ _ _ _ _ _ _ x dx l tkd hsh vs n rows _ _ _ _ B F1 X T ?kK ?kd ?ku N2 R hv q1 q2 q3 f1 f2 f3 hr ?r1; (case kK => first | exact rfl | assumption); (case kd => ktr_room); (case ku => ktr_units))
    k_whole
    intro t3 h3 tk3 F3 N3 k3
    have N4 := news_kept N1 k3
    (try dsimp only)
    k_steps
    refine TurnEnd.intro (by k_asm) N4 (fun _ hp => hp) ?_
    rw [hc3]
    exact j.snoc hc2 t3
  · intro D oD kvs h tk j hod F9 N9 n1 n2
    replace j : KvsAre (fun k => getOf rows k k) [120, 121, 122] kvs := j
    have hlo : (D == sysModules) = false := beq_eq_false_iff_ne.mpr (Nat.ne_of_gt (by
      have q1 := modules_low T.nolimit
      have q2 := F9.above
      have q3 : L + 1 < D := n1 (L + 1, c1) (.tail _ (.tail _ (.tail _ (.head _))))
      exact ltN3 q1 q2 q3))
    have N9' : News h₀ L h ([(D, oD), (L + 4, c4), (L + 3, c3)] ++ (L + 2, c2) :: (L + 1, c1) :: (tab3 185 x dx l tkd hsh vs n ++ tups)) := N9
    have hU := updCell (pre := [(D, oD), (L + 4, c4), (L + 3, c3)]) N9' d2 (fun p hp => by
      rcases List.mem_cons.mp hp with rfl | hp
      · exact Ne.symm (Nat.ne_of_lt (n1 (L + 2, c2) (.tail _ (.tail _ (.head _)))))
      rcases List.mem_cons.mp hp with rfl | hp
      · exact addNe L (by decide)
      rcases List.mem_cons.mp hp with rfl | hp
      · exact addNe L (by decide)
      · cases hp) (fun p hp => by
      rcases List.mem_cons.mp hp with rfl | hp
      · exact .inl (addNe L (by decide))
      · exact .inr (noCell_tab jT p hp))
    simp only [List.cons_append, List.nil_append] at hU
    clear N9'
    (try dsimp only)
    k_steps
    refine Hold.mk ?_
    (with_reducible rename Fr _ _ _ _ => F1)
    (with_reducible rename News _ _ _ _ => N1)
    have N2 : News h₀ L _ [(D, oD)] := cb_drop N1 (fun p hp => by
      rcases List.mem_cons.mp hp with rfl | hp
      · exact .head _
      · cases hp)
    k_dflt (refine' put _ _ _ _ _ _ _ _ _ _ _ _ _ _ _ _ _ D oD kvs (putF fun k => getOf rows k k) one _ B F1 X T ?kK3 ?kd3 ?ku3 N2 hod hlo (fun k u => j.get k u) hx1 ha1 hfl1 ?r3; (case kK3 => first | exact rfl | assumption); (case kd3 => ktr_room); (case ku3 => ktr_units))
    k_whole
    intro t3 h3 tk3 F3 N3 k3
    have N4 := news_kept N1 k3
    clear F1 N1 N2
    (try dsimp only)
    k_steps
    refine Hold.mk ?_
    (with_reducible rename Fr _ _ _ _ => F1)
    have N2 : News h₀ L _ [(D, oD)] := N3
    k_dflt (refine' put _ _ _ _ _ _ _ _ _ _ _ _ _ _ _ _ _ D oD kvs (putF fun k => getOf rows k k) other _ B F1 X T ?kK2 ?kd2 ?ku2 N2 hod hlo (fun k u => j.get k u) hx2 ha2 hfl2 ?r2; (case kK2 => first | exact rfl | assumption); (case kd2 => ktr_room); (case ku2 => ktr_units))
    k_whole
    intro t5 h5 tk5 F5 N5 k5
    have N6 := news_kept N4 k5
    clear N4 N2 F1
    rw [heq]
    (try dsimp only)
    k_steps
    · rename_i a
      rw [bne_self_eq_false] at a
      cases a
    · refine hret D oD kvs _ _ _ (by assumption) hod j hlo (n1 (L + 4, c4) (.head _)) F5 (cb_drop N6 fun p hp => ?_)
      rcases List.mem_cons.mp hp with rfl | hp
      · exact .tail _ (.head _)
      rcases List.mem_cons.mp hp with rfl | hp
      · exact .tail _ (.tail _ (.head _))
      rcases List.mem_cons.mp hp with rfl | hp
      · exact .tail _ (.tail _ (.tail _ (.head _)))
      rcases List.mem_cons.mp hp with rfl | hp
      · exact .tail _ (.tail _ (.tail _ (.tail _ (.head _))))
      rcases List.mem_cons.mp hp with rfl | hp
      · exact .head _
      · cases hp
theorem s2n {w : World} {p : Program} {loose : List Str} {mean : ExcName → Option Value} {mg mb : Str → Option Value}
    (fa : Addr) (cdv : Value) (base h₀ : Heap) (L : Addr) (m : Str → Option Value) (s : Shared) (Q : Flow → Shared → Prop) (E : Value → Shared → Prop) (c1 c2 c3 c4 : Obj)
    (B : Below callerA base [] h₀) (F : Fr h₀ L s.heap m) (X : (hd3.heap_39 w.params).In h₀) (T : Top p loose mean mg mb h₀) (N : News h₀ L s.heap (cells L c1 c2 c3 c4)) (d1 : c1.data = .cell (some .none))
    (hret : ∀ h tk, Fr h₀ L h m → News h₀ L h (cells L c1 c2 c3 c4) → Q .next { s with heap := h, toks := tk }) :
    wpAny (model PySem.Challenge.rw_pg0249_03.row.prog w) (lawA L fa cdv) (exec (nthS lawBody 2) (lawE L fa cdv)) Q E s := by
  revert X; k_fill; intro X
  have eS : lawScope = lawScope := rfl
  have eB : nthS lawBody 2 = nthS lawBody 2 := rfl
  (conv at eS => rhs; whnf)
  (conv at eB => rhs; whnf)
  unfold lawA lawE
  rw [eS, eB]
  clear eS eB
  k_steps
  exact hret _ _ F N
end Mine
end
section
open PySem PySem.W PyProof.Rows
set_option Elab.async false
set_option maxRecDepth 100000
set_option maxHeartbeats 8000000
set_option pp.deepTerms true
set_option pp.proofs false
namespace Mine
def pick (r : Nat) : Str := if r = 0 then Str.ofString "a" else if r = 1 then Str.ofString "faa" else Str.ofString "fab"
def wayOf (i : Nat) (k : Str) : Str := pick (i / (if k = ⟨#[120]⟩ then 1 else if k = ⟨#[121]⟩ then 3 else 9) % 3)
local macro_rules | `(tactic| walk_at "none at all") => `(tactic| fail)
local macro_rules | `(tactic| walk_at "none at all") => `(tactic| fail)
local macro_rules | `(tactic| walk_at "none at all") => `(tactic| fail)
local macro_rules | `(tactic| walk_at "none at all") => `(tactic| fail)
local macro_rules | `(tactic| walk_at "none at all") => `(tactic| fail)
local macro_rules | `(tactic| walk_at "none at all") => `(tactic| fail)
local macro_rules | `(tactic| walk_at "none at all") => `(tactic| fail)
local macro_rules | `(tactic| walk_at "none at all") => `(tactic| fail)
local macro_rules | `(tactic| walk_at "none at all") => `(tactic| fail)
local macro_rules | `(tactic| walk_at "none at all") => `(tactic| fail)
local macro_rules | `(tactic| walk_at "none at all") => `(tactic| fail)
local macro_rules | `(tactic| walk_at "storeName") => `(tactic| (k_here; k_dflt (refine' storeX_C ?F ?N ?c ?U ?d ?_ ?a ?b; (case a => rfl); (case b => rfl); (case F => k_asm); (case N => k_asm); (case c => rfl); (case U => first | assumption | apply_assumption); (case d => k_asm); k_whole); intro h' o' F' N' d'; (try dsimp only at N')))
local macro_rules | `(tactic| walk_at "call ref") => `(tactic| (k_here; (with_reducible show wpAny _ _ (call (Value.ref 211) _ _) _ _ _); refine Hold.out ?_))
local macro_rules | `(tactic| walk_at "eval DictComp") => `(tactic| (k_here; refine Hold.out ?_))
local macro_rules | `(tactic| walk_at "call type:enumerate") => `(tactic| (k_here; refine Hold.out ?_))
local macro_rules | `(tactic| walk_at "pyIter ref") => `(tactic| (k_here; refine Hold.out ?_))
theorem wayAt {i j r c : Nat} (hc : (Str.ofString "xyz").cps[j]? = some c) (e : (((i : Nat) : Int).fdiv (3 ^ ((j : Nat) : Int).toNat)).fmod 3 = ((r : Nat) : Int)) : wayOf i ⟨#[c]⟩ = pick r := by
  have hj : j < 3 := (Array.getElem?_eq_some_iff.mp hc).1
  have e2 : i / 3 ^ j % 3 = r := by
    rw [Int.toNat_natCast, Int.fdiv_eq_ediv_of_nonneg _ (Int.pow_nonneg (by decide)), Int.fmod_eq_emod_of_nonneg _ (by decide)] at e
    have h2 : ((i / 3 ^ j % 3 : Nat) : Int) = (r : Int) := by
      rw [← e]
      push_cast
      rfl
    exact Int.ofNat.inj h2
  match j, hj, hc, e2 with
  | 0, _, hc, e2 => cases (show some 120 = some c from hc); subst e2; rfl
  | 1, _, hc, e2 => cases (show some 121 = some c from hc); subst e2; rfl
  | 2, _, hc, e2 => cases (show some 122 = some c from hc); subst e2; rfl
theorem wayEnd {i j r c : Nat} {kvs : List (Str × Value)} {t : Tok} (hc : (Str.ofString "xyz").cps[j]? = some c) (hc2 : c ∉ [120, 121, 122].take j) (hc3 : [120, 121, 122].take (j + 1) = [120, 121, 122].take j ++ [c]) (jv : KvsAre (wayOf i) ([120, 121, 122].take j) kvs) (e : (((i : Nat) : Int).fdiv (3 ^ ((j : Nat) : Int).toNat)).fmod 3 = ((r : Nat) : Int)) :
    KvsAre (wayOf i) ([120, 121, 122].take (j + 1)) (stored kvs ⟨#[c]⟩ (.str (pick r) t)) := by
  rw [hc3, ← wayAt hc e]
  exact jv.snoc hc2 t
theorem s3n {w : World} {p : Program} {loose : List Str} {mean : ExcName → Option Value} {mg mb : Str → Option Value} (one other : Str) (t u : Tok)
    (fa : Addr) (cdv : Value) (base h₀ : Heap) (L : Addr) (m : Str → Option Value) (s : Shared) (Q : Flow → Shared → Prop) (E : Value → Shared → Prop) (c1 c2 c3 c4 : Obj)
    (hE : PassesOwn (model PySem.Challenge.rw_pg0249_03.row.prog w) (lawA L fa cdv) (lawE L fa cdv) E)
    (B : Below callerA base [] h₀) (F : Fr h₀ L s.heap m) (X : (hd3.heap_39 w.params).In h₀) (T : Top p loose mean mg mb h₀) (N : News h₀ L s.heap (cells L c1 c2 c3 c4)) (d1 : c1.data = .cell (some .none)) (d3 : ∃ v, c3.data = .cell v) (d4 : ∃ v, c4.data = .cell v)
    (hm1 : m (Str.ofString "one") = some (.str one t)) (hm2 : m (Str.ofString "other") = some (.str other u))
    (hx1 : one.length ≤ 200000) (ha1 : one.cps.all (· < 128) = true) (hfl1 : ∀ i, ((one.cps.toList.map fun d => putF (wayOf i) ⟨#[d]⟩).map (·.length)).sum ≤ 16000000)
    (hx2 : other.length ≤ 200000) (ha2 : other.cps.all (· < 128) = true) (hfl2 : ∀ i, ((other.cps.toList.map fun d => putF (wayOf i) ⟨#[d]⟩).map (·.length)).sum ≤ 16000000)
    (hne : ∀ i < 27, putOf (putF (wayOf i)) one ≠ putOf (putF (wayOf i)) other)
    (hret : ∀ h tk m', Fr h₀ L h m' → Q .next { s with heap := h, toks := tk }) :
    wpAny (model PySem.Challenge.rw_pg0249_03.row.prog w) (lawA L fa cdv) (exec (nthS lawBody 3) (lawE L fa cdv)) Q E s := by
  revert X; k_fill; intro X
  have eS : lawScope = lawScope := rfl
  have eB : nthS lawBody 3 = nthS lawBody 3 := rfl
  (conv at eS => rhs; whnf)
  (conv at eB => rhs; whnf)
  unfold lawA lawE at *
  rw [eS, eB] at *
  clear eS eB
  (with_unfolding_all refine' For_turns F ?_ ?_ ?_; k_whole)
  k_steps
  refine Hold.mk ?_
  (with_reducible rename Fr _ _ _ _ => F1)
  (with_reducible rename News _ _ _ _ => N1)
  (with_unfolding_all refine iter_rangeTurns (n := 27) (by rfl) (by assumption) (by decide +kernel) (by decide +kernel) F1 N1 fun I hI => ?_; k_whole)
  obtain ⟨v3, d3⟩ := d3
  obtain ⟨v4, d4⟩ := d4
  refine rangeRest_ind (n := 27) (J := fun i m' news => ∃ c3' c4' v3 v4, news = cells L c1 c2 c3' c4' ∧ c3'.data = .cell v3 ∧ c4'.data = .cell v4 ∧ m' (Str.ofString "one") = some (.str one t) ∧ m' (Str.ofString "other") = some (.str other u)) ?_ ?_ 27 0 _ _ rfl ⟨c3, c4, v3, v4, rfl, d3, d4, hm1, hm2⟩
  · rintro i m₁ news hi ⟨c3', c4', v3', v4', rfl, e3, e4, g1, g2⟩ tt h tk F2
    refine AllObj.cons fun oI hoI => ?_
    refine AllObj.nil ?_
    intro N2
    obtain ⟨m', e⟩ := see_eq g1
    have g2' := g2
    rw [e] at g2'
    replace g2' := see_in g2' (by decide)
    obtain ⟨m'', e'⟩ := see_eq g2'
    rw [e'] at e
    subst e'
    subst e
    clear F1 N1
    (try clear N)
    (try clear F)
    simp only [List.cons_append, List.nil_append] at N2
    have hI4 : I ≠ L + 3 := Ne.symm (Nat.ne_of_lt (hI (L + 3, c3) (.tail _ (.head _))))
    (try dsimp only)
    have N2' : News h₀ L h ([(I, oI), (L + 4, c4')] ++ (L + 3, c3') :: [(L + 2, c2), (L + 1, c1)]) := N2
    have hU := updCell (pre := [(I, oI), (L + 4, c4')]) N2' e3 (fun p hp => by
      rcases List.mem_cons.mp hp with rfl | hp
      · exact hI4
      rcases List.mem_cons.mp hp with rfl | hp
      · exact addNe L (by decide)
      · cases hp) (fun p hp => by
      rcases List.mem_cons.mp hp with rfl | hp
      · exact .inl (addNe L (by decide))
      rcases List.mem_cons.mp hp with rfl | hp
      · exact .inl (addNe L (by decide))
      · cases hp)
    simp only [List.cons_append, List.nil_append] at hU
    clear N2'
    k_steps
    refine Hold.mk ?_
    refine DictComp_E (F₀ := by k_asm) (by with_unfolding_all rfl) (by decide) (by rfl) (by decide) (by rfl) (by rfl) (by decide) ?_
    k_whole
    k_steps
    refine Hold.mk ?_
    refine SrcDE.call (fun j kvs => KvsAre (wayOf i) ([120, 121, 122].take j) kvs) (by rfl) (by k_asm) (by k_asm) (by decide +kernel) (by rw [sizeLine_eq]; decide +kernel) (.nil _) (fun g => ?_) ?_
    · intro j kvs a b hab jv I2 oI2 I3 oI3 C oC D oD m₂ h tk E' hC hx hx9 F hod N off
      obtain ⟨t8, x8, ⟨c, u9, hc, rfl⟩, rfl, rfl⟩ := hab
      obtain ⟨hc1, hc2, hc3⟩ := xyzAt hc
      (try simp only [LCg.Off3, and_true] at off)
      have hj : j < 3 := (Array.getElem?_eq_some_iff.mp hc).1
      match j, hj with
      | 0, _ =>
        cases (show some 120 = some c from hc)
        (try dsimp only)
        k_steps
        all_goals (refine TurnEnd.intro (by k_asm) (by k_asm) (fun _ hp => .tail _ hp) ?_)
        all_goals first | exact wayEnd (r := 0) hc hc2 hc3 jv (by assumption) | exact wayEnd (r := 1) hc hc2 hc3 jv (by assumption) | exact wayEnd (r := 2) hc hc2 hc3 jv (by assumption)
      | 1, _ => 
        cases (show some 121 = some c from hc)
        (try dsimp only)
        k_steps
        all_goals (refine TurnEnd.intro (by k_asm) (by k_asm) (fun _ hp => .tail _ hp) ?_)
        all_goals first | exact wayEnd (r := 0) hc hc2 hc3 jv (by assumption) | exact wayEnd (r := 1) hc hc2 hc3 jv (by assumption) | exact wayEnd (r := 2) hc hc2 hc3 jv (by assumption)
      | 2, _ =>
        cases (show some 122 = some c from hc)
        (try dsimp only)
        k_steps
        all_goals (refine TurnEnd.intro (by k_asm) (by k_asm) (fun _ hp => .tail _ hp) ?_)
        all_goals first | exact wayEnd (r := 0) hc hc2 hc3 jv (by assumption) | exact wayEnd (r := 1) hc hc2 hc3 jv (by assumption) | exact wayEnd (r := 2) hc hc2 hc3 jv (by assumption)
    · intro D oD kvs h tk j hod F9 N9 n1 n2
      replace j : KvsAre (wayOf i) [120, 121, 122] kvs := j
      have hlo : (D == sysModules) = false := beq_eq_false_iff_ne.mpr (Nat.ne_of_gt (by
        have q1 := modules_low T.nolimit
        have q2 := F9.above
        have q3 : L + 1 < D := n1 (L + 1, c1) (.tail _ (.tail _ (.tail _ (.tail _ (.head _)))))
        exact ltN3 q1 q2 q3))
      have hDI : D ≠ I := Ne.symm (Nat.ne_of_lt (n1 (I, oI) (.head _)))
      have hD4 : D ≠ L + 4 := Ne.symm (Nat.ne_of_lt (n1 (L + 4, c4') (.tail _ (.head _))))
      have hI5 : I ≠ L + 4 := Ne.symm (Nat.ne_of_lt (hI (L + 4, c4) (.head _)))
      have hU : ∀ o3, UpdF (L + 4) c4' ([(D, oD), (I, oI)] ++ (L + 4, c4') :: [(L + 3, o3), (L + 2, c2), (L + 1, c1)]) (fun o' => [(D, oD), (I, oI)] ++ (L + 4, o') :: [(L + 3, o3), (L + 2, c2), (L + 1, c1)]) := fun o3 => updF_mk (fun p hp => by
        rcases List.mem_cons.mp hp with rfl | hp
        · exact hD4
        rcases List.mem_cons.mp hp with rfl | hp
        · exact hI5
        · cases hp) (fun p hp => by
        rcases List.mem_cons.mp hp with rfl | hp
        · exact addNe L (by decide)
        rcases List.mem_cons.mp hp with rfl | hp
        · exact addNe L (by decide)
        rcases List.mem_cons.mp hp with rfl | hp
        · exact addNe L (by decide)
        · cases hp)
      simp only [List.cons_append, List.nil_append] at hU
      (try dsimp only)
      k_steps
      refine Hold.mk ?_
      (with_reducible rename Fr _ _ _ _ => F1)
      (with_reducible rename News _ _ _ _ => N1)
      have N2 : News h₀ L _ [(D, oD)] := cb_drop N1 (fun p hp => by
        rcases List.mem_cons.mp hp with rfl | hp
        · exact .head _
        · cases hp)
      k_dflt (refine' put _ _ _ _ _ _ _ _ _ _ _ _ _ _ _ _ _ D oD kvs (putF (wayOf i)) one _ B F1 X T ?kK3 ?kd3 ?ku3 N2 hod hlo (fun k u => j.get k u) hx1 ha1 (hfl1 i) ?r3; (case kK3 => first | exact rfl | assumption); (case kd3 => ktr_room); (case ku3 => ktr_units))
      k_whole
      intro t3 h3 tk3 F3 N3 k3
      have N4 := news_kept N1 k3
      clear F1 N1 N2
      (try dsimp only)
      k_steps
      refine Hold.mk ?_
      (with_reducible rename Fr _ _ _ _ => F1)
      have N2 : News h₀ L _ [(D, oD)] := N3
      k_dflt (refine' put _ _ _ _ _ _ _ _ _ _ _ _ _ _ _ _ _ D oD kvs (putF (wayOf i)) other _ B F1 X T ?kK2 ?kd2 ?ku2 N2 hod hlo (fun k u => j.get k u) hx2 ha2 (hfl2 i) ?r2; (case kK2 => first | exact rfl | assumption); (case kd2 => ktr_room); (case ku2 => ktr_units))
      k_whole
      intro t5 h5 tk5 F5 N5 k5
      have N6 := news_kept N4 k5
      clear N4 N2 F1
      (try dsimp only)
      have hbb : (putOf (putF (wayOf i)) one == putOf (putF (wayOf i)) other) = false := beq_eq_false_iff_ne.mpr (hne i hi)
      k_steps
      · rename_i a
        rw [hbb] at a
        cases a
      · (with_reducible rename Fr _ _ _ _ => F8)
        (with_reducible rename News _ _ _ _ => N8)
        refine endZ F8 N8 [(L + 4, _), (L + 3, _), (L + 2, c2), (L + 1, c1)] (fun p hp => .tail _ hp) (fun p hp q hq e => ?_) ⟨_, _, _, _, rfl, by assumption, by assumption, rfl, rfl⟩
        rw [List.mem_singleton.mp hq] at e
        rcases List.mem_cons.mp hp with rfl | hp
        · exact hI5 e.symm
        rcases List.mem_cons.mp hp with rfl | hp
        · exact hI4 e.symm
        rcases List.mem_cons.mp hp with rfl | hp
        · exact Nat.ne_of_lt (hI (L + 2, c2) (.tail _ (.tail _ (.head _)))) e
        rcases List.mem_cons.mp hp with rfl | hp
        · exact Nat.ne_of_lt (hI (L + 1, c1) (.tail _ (.tail _ (.tail _ (.head _))))) e
        · cases hp
  · rintro m₁ news ⟨c3', c4', v3', v4', rfl, e3, e4, g1, g2⟩ h tk F2 N2
    exact hret _ _ _ F2
end Mine
end
section
open PySem PySem.W PyProof.Rows
set_option Elab.async false
set_option maxRecDepth 100000
set_option maxHeartbeats 8000000
set_option pp.deepTerms true
set_option pp.proofs false
namespace Mine
local macro_rules | `(tactic| walk_at "none at all") => `(tactic| fail)
local macro_rules | `(tactic| walk_at "none at all") => `(tactic| fail)
local macro_rules | `(tactic| walk_at "none at all") => `(tactic| fail)
local macro_rules | `(tactic| walk_at "none at all") => `(tactic| fail)
local macro_rules | `(tactic| walk_at "none at all") => `(tactic| fail)
local macro_rules | `(tactic| walk_at "none at all") => `(tactic| fail)
local macro_rules | `(tactic| walk_at "none at all") => `(tactic| fail)
local macro_rules | `(tactic| walk_at "none at all") => `(tactic| fail)
local macro_rules | `(tactic| walk_at "none at all") => `(tactic| fail)
local macro_rules | `(tactic| walk_at "none at all") => `(tactic| fail)
local macro_rules | `(tactic| walk_at "none at all") => `(tactic| fail)
local macro_rules | `(tactic| walk_at "storeName") => `(tactic| (k_here; k_dflt (refine' storeX_C ?F ?N ?c ?U ?d ?_ ?a ?b; (case a => rfl); (case b => rfl); (case F => k_asm); (case N => k_asm); (case c => rfl); (case U => first | assumption | apply_assumption); (case d => k_asm); k_whole); intro h' o' F' N' d'; (try dsimp only at N')))
local macro_rules | `(tactic| walk_at "call ref") => `(tactic| (k_here; (with_reducible show wpAny _ _ (call (Value.ref 211) _ _) _ _ _); refine Hold.out ?_))
local macro_rules | `(tactic| walk_at "eval DictComp") => `(tactic| (k_here; refine Hold.out ?_))
local macro_rules | `(tactic| walk_at "call type:enumerate") => `(tactic| (k_here; refine Hold.out ?_))
local macro_rules | `(tactic| walk_at "pyIter ref") => `(tactic| (k_here; refine Hold.out ?_))
local macro_rules | `(tactic| walk_at "eval ListComp") => `(tactic| (k_here; k_dflt (refine ListComp_S (F₀ := by k_asm) (by with_unfolding_all rfl) (by decide) (by rfl) (by decide) (by rfl) ?_)))
theorem s3r {w : World} {p : Program} {loose : List Str} {mean : ExcName → Option Value} {mg mb : Str → Option Value} (one other : Str) (t u : Tok)
    (fa : Addr) (cdv : Value) (base h₀ : Heap) (L : Addr) (m : Str → Option Value) (s : Shared) (Q : Flow → Shared → Prop) (E : Value → Shared → Prop) (c1 c2 c3 c4 : Obj) (x D0 : Addr) (oD0 : Obj) (kvs0 : List (Str × Value)) (rows : List (Str × Str))
    (hE : PassesOwn (model PySem.Challenge.rw_pg0249_03.row.prog w) (lawA L fa cdv) (lawE L fa cdv) E)
    (B : Below callerA base [] h₀) (F : Fr h₀ L s.heap m) (X : (hd3.heap_39 w.params).In h₀) (T : Top p loose mean mg mb h₀) (N : News h₀ L s.heap (cells L c1 c2 c3 c4 ++ [(D0, oD0)])) (d1 : c1.data = .cell (some (.ref x))) (d2 : c2.data = .cell (some (.ref D0))) (hod0 : oD0.IsDictOf (strKind PySem.Challenge.rw_pg0249_03.row.prog w) kvs0) (j0 : KvsAre (fun k => getOf rows k k) [120, 121, 122] kvs0) (hlo0 : (D0 == sysModules) = false) (z3 : L + 3 ≠ D0) (z4 : L + 4 ≠ D0) (d3 : ∃ v, c3.data = .cell v) (d4 : ∃ v, c4.data = .cell v)
    (hm1 : m (Str.ofString "one") = some (.str one t)) (hm2 : m (Str.ofString "other") = some (.str other u))
    (hx1 : one.length ≤ 200000) (ha1 : one.cps.all (· < 128) = true) (hfl1 : ∀ i, ((one.cps.toList.map fun d => putF (wayOf i) ⟨#[d]⟩).map (·.length)).sum ≤ 16000000)
    (hx2 : other.length ≤ 200000) (ha2 : other.cps.all (· < 128) = true) (hfl2 : ∀ i, ((other.cps.toList.map fun d => putF (wayOf i) ⟨#[d]⟩).map (·.length)).sum ≤ 16000000)
    (hgl : ∀ i c, c = 120 ∨ c = 121 ∨ c = 122 → (getOf rows ⟨#[c]⟩ ⟨#[c]⟩).length ≤ 200000 ∧ (getOf rows ⟨#[c]⟩ ⟨#[c]⟩).cps.all (· < 128) = true ∧ (((getOf rows ⟨#[c]⟩ ⟨#[c]⟩).cps.toList.map fun d => putF (wayOf i) ⟨#[d]⟩).map (·.length)).sum ≤ 16000000)
    (hne : ∀ i < 27, (putOf (putF (wayOf i)) one == putOf (putF (wayOf i)) other) = [120, 121, 122].all fun c => putOf (putF (wayOf i)) (getOf rows ⟨#[c]⟩ ⟨#[c]⟩) == wayOf i ⟨#[c]⟩)
    (hret : ∀ h tk m', Fr h₀ L h m' → Q .next { s with heap := h, toks := tk }) :
    wpAny (model PySem.Challenge.rw_pg0249_03.row.prog w) (lawA L fa cdv) (exec (nthS lawBody 3) (lawE L fa cdv)) Q E s := by
  revert X; k_fill; intro X
  have eS : lawScope = lawScope := rfl
  have eB : nthS lawBody 3 = nthS lawBody 3 := rfl
  (conv at eS => rhs; whnf)
  (conv at eB => rhs; whnf)
  unfold lawA lawE at *
  rw [eS, eB] at *
  clear eS eB
  (with_unfolding_all refine' For_turns F ?_ ?_ ?_; k_whole)
  k_steps
  refine Hold.mk ?_
  (with_reducible rename Fr _ _ _ _ => F1)
  (with_reducible rename News _ _ _ _ => N1)
  (with_unfolding_all refine iter_rangeTurns (n := 27) (by rfl) (by assumption) (by decide +kernel) (by decide +kernel) F1 N1 fun I hI => ?_; k_whole)
  obtain ⟨v3, d3⟩ := d3
  obtain ⟨v4, d4⟩ := d4
  refine rangeRest_ind (n := 27) (J := fun i m' news => ∃ c3' c4' v3 v4, news = cells L c1 c2 c3' c4' ++ [(D0, oD0)] ∧ c3'.data = .cell v3 ∧ c4'.data = .cell v4 ∧ m' (Str.ofString "one") = some (.str one t) ∧ m' (Str.ofString "other") = some (.str other u)) ?_ ?_ 27 0 _ _ rfl ⟨c3, c4, v3, v4, rfl, d3, d4, hm1, hm2⟩
  · rintro i m₁ news hi ⟨c3', c4', v3', v4', rfl, e3, e4, g1, g2⟩ tt h tk F2
    refine AllObj.cons fun oI hoI => ?_
    refine AllObj.nil ?_
    intro N2
    obtain ⟨m', e⟩ := see_eq g1
    have g2' := g2
    rw [e] at g2'
    replace g2' := see_in g2' (by decide)
    obtain ⟨m'', e'⟩ := see_eq g2'
    rw [e'] at e
    subst e'
    subst e
    clear F1 N1
    (try clear N)
    (try clear F)
    simp only [List.cons_append, List.nil_append] at N2
    have hI4 : I ≠ L + 3 := Ne.symm (Nat.ne_of_lt (hI (L + 3, c3) (.tail _ (.head _))))
    (try dsimp only)
    have N2' : News h₀ L h ([(I, oI), (L + 4, c4')] ++ (L + 3, c3') :: [(L + 2, c2), (L + 1, c1), (D0, oD0)]) := N2
    have hU := updCell (pre := [(I, oI), (L + 4, c4')]) N2' e3 (fun p hp => by
      rcases List.mem_cons.mp hp with rfl | hp
      · exact hI4
      rcases List.mem_cons.mp hp with rfl | hp
      · exact addNe L (by decide)
      · cases hp) (fun p hp => by
      rcases List.mem_cons.mp hp with rfl | hp
      · exact .inl (addNe L (by decide))
      rcases List.mem_cons.mp hp with rfl | hp
      · exact .inl (addNe L (by decide))
      rcases List.mem_cons.mp hp with rfl | hp
      · exact .inl (Ne.symm z3)
      · cases hp)
    simp only [List.cons_append, List.nil_append] at hU
    clear N2'
    k_steps
    refine Hold.mk ?_
    refine DictComp_E (F₀ := by k_asm) (by with_unfolding_all rfl) (by decide) (by rfl) (by decide) (by rfl) (by rfl) (by decide) ?_
    k_whole
    k_steps
    refine Hold.mk ?_
    refine SrcDE.call (fun j kvs => KvsAre (wayOf i) ([120, 121, 122].take j) kvs) (by rfl) (by k_asm) (by k_asm) (by decide +kernel) (by rw [sizeLine_eq]; decide +kernel) (.nil _) (fun g => ?_) ?_
    · intro j kvs a b hab jv I2 oI2 I3 oI3 C oC D oD m₂ h tk E' hC hx hx9 F hod N off
      obtain ⟨t8, x8, ⟨c, u9, hc, rfl⟩, rfl, rfl⟩ := hab
      obtain ⟨hc1, hc2, hc3⟩ := xyzAt hc
      (try simp only [LCg.Off3, and_true] at off)
      have hj : j < 3 := (Array.getElem?_eq_some_iff.mp hc).1
      match j, hj with
      | 0, _ =>
        cases (show some 120 = some c from hc)
        (try dsimp only)
        k_steps
        all_goals (refine TurnEnd.intro (by k_asm) (by k_asm) (fun _ hp => .tail _ hp) ?_)
        all_goals first | exact wayEnd (r := 0) hc hc2 hc3 jv (by assumption) | exact wayEnd (r := 1) hc hc2 hc3 jv (by assumption) | exact wayEnd (r := 2) hc hc2 hc3 jv (by assumption)
      | 1, _ => 
        cases (show some 121 = some c from hc)
        (try dsimp only)
        k_steps
        all_goals (refine TurnEnd.intro (by k_asm) (by k_asm) (fun _ hp => .tail _ hp) ?_)
        all_goals first | exact wayEnd (r := 0) hc hc2 hc3 jv (by assumption) | exact wayEnd (r := 1) hc hc2 hc3 jv (by assumption) | exact wayEnd (r := 2) hc hc2 hc3 jv (by assumption)
      | 2, _ =>
        cases (show some 122 = some c from hc)
        (try dsimp only)
        k_steps
        all_goals (refine TurnEnd.intro (by k_asm) (by k_asm) (fun _ hp => .tail _ hp) ?_)
        all_goals first | exact wayEnd (r := 0) hc hc2 hc3 jv (by assumption) | exact wayEnd (r := 1) hc hc2 hc3 jv (by assumption) | exact wayEnd (r := 2) hc hc2 hc3 jv (by assumption)
    · intro D oD kvs h tk j hod F9 N9 n1 n2
      replace j : KvsAre (wayOf i) [120, 121, 122] kvs := j
      have hlo : (D == sysModules) = false := beq_eq_false_iff_ne.mpr (Nat.ne_of_gt (by
        have q1 := modules_low T.nolimit
        have q2 := F9.above
        have q3 : L + 1 < D := n1 (L + 1, c1) (.tail _ (.tail _ (.tail _ (.tail _ (.head _)))))
        exact ltN3 q1 q2 q3))
      have hDI : D ≠ I := Ne.symm (Nat.ne_of_lt (n1 (I, oI) (.head _)))
      have hD4 : D ≠ L + 4 := Ne.symm (Nat.ne_of_lt (n1 (L + 4, c4') (.tail _ (.head _))))
      have hI5 : I ≠ L + 4 := Ne.symm (Nat.ne_of_lt (hI (L + 4, c4) (.head _)))
      have hU : ∀ o3, UpdF (L + 4) c4' ([(D, oD), (I, oI)] ++ (L + 4, c4') :: [(L + 3, o3), (L + 2, c2), (L + 1, c1), (D0, oD0)]) (fun o' => [(D, oD), (I, oI)] ++ (L + 4, o') :: [(L + 3, o3), (L + 2, c2), (L + 1, c1), (D0, oD0)]) := fun o3 => updF_mk (fun p hp => by
        rcases List.mem_cons.mp hp with rfl | hp
        · exact hD4
        rcases List.mem_cons.mp hp with rfl | hp
        · exact hI5
        · cases hp) (fun p hp => by
        rcases List.mem_cons.mp hp with rfl | hp
        · exact addNe L (by decide)
        rcases List.mem_cons.mp hp with rfl | hp
        · exact addNe L (by decide)
        rcases List.mem_cons.mp hp with rfl | hp
        · exact addNe L (by decide)
        rcases List.mem_cons.mp hp with rfl | hp
        · exact Ne.symm z4
        · cases hp)
      simp only [List.cons_append, List.nil_append] at hU
      (try dsimp only)
      k_steps
      refine Hold.mk ?_
      (with_reducible rename Fr _ _ _ _ => F1)
      (with_reducible rename News _ _ _ _ => N1)
      have N2 : News h₀ L _ [(D, oD)] := cb_drop N1 (fun p hp => by
        rcases List.mem_cons.mp hp with rfl | hp
        · exact .head _
        · cases hp)
      k_dflt (refine' put _ _ _ _ _ _ _ _ _ _ _ _ _ _ _ _ _ D oD kvs (putF (wayOf i)) one _ B F1 X T ?kK3 ?kd3 ?ku3 N2 hod hlo (fun k u => j.get k u) hx1 ha1 (hfl1 i) ?r3; (case kK3 => first | exact rfl | assumption); (case kd3 => ktr_room); (case ku3 => ktr_units))
      k_whole
      intro t3 h3 tk3 F3 N3 k3
      have N4 := news_kept N1 k3
      clear F1 N1 N2
      (try dsimp only)
      k_steps
      refine Hold.mk ?_
      (with_reducible rename Fr _ _ _ _ => F1)
      have N2 : News h₀ L _ [(D, oD)] := N3
      k_dflt (refine' put _ _ _ _ _ _ _ _ _ _ _ _ _ _ _ _ _ D oD kvs (putF (wayOf i)) other _ B F1 X T ?kK2 ?kd2 ?ku2 N2 hod hlo (fun k u => j.get k u) hx2 ha2 (hfl2 i) ?r2; (case kK2 => first | exact rfl | assumption); (case kd2 => ktr_room); (case ku2 => ktr_units))
      k_whole
      intro t5 h5 tk5 F5 N5 k5
      have N6 := news_kept N4 k5
      clear N4 N2 F1
      (try dsimp only)
      k_steps
      refine SrcS.mk ⟨Str.ofString "xyz", _, _, rfl, by rfl, by k_asm, by k_asm, by decide +kernel, by rw [sizeLine_eq]; decide +kernel, fun s₂ hs₂ => ?_⟩
      obtain ⟨gg, rfl⟩ := hs₂
      refine restU_ind (n := 3) (J := fun j ys => ys = ([120, 121, 122].take j).map fun c => Value.bool (putOf (putF (wayOf i)) (getOf rows ⟨#[c]⟩ ⟨#[c]⟩) == wayOf i ⟨#[c]⟩)) trivial ?_ ?_ _ 0 [] (by rfl) rfl
      · intro i9 ys hi9 jy v I9 oI9 C9 oC9 D9 m₂ h9 tk9 E' hv hC hx F7 N7 off ne
        obtain ⟨c, u9, hc, rfl⟩ := hv
        obtain ⟨hc1, hc2, hc3⟩ := xyzAt hc
        (try simp only [LCg.Off3, and_true] at off)
        (try dsimp only)
        k_steps
        obtain ⟨t7, hv7⟩ := j0.item hc1
        k_dflt (refine kdt_tail (knd := strKind _ _) N7 (by k_mem) hod0 ?_)
        k_dflt (refine kdt_getItem (knd := strKind _ _) N7 (by k_mem) hod0 (strKind_is _ _ _ _) hv7 ?_)
        k_steps
        refine Hold.mk ?_
        (with_reducible rename Fr _ _ _ _ => F1)
        (with_reducible rename News _ _ _ _ => N1)
        have N2 : News h₀ L _ [(D, oD)] := cb_drop N1 (fun p hp => by
          rcases List.mem_cons.mp hp with rfl | hp
          · exact .tail _ (.tail _ (.tail _ (.head _)))
          · cases hp)
        obtain ⟨b1, b2, b3⟩ := hgl i c hc1
        k_dflt (refine' put _ _ _ _ _ _ _ _ _ _ _ _ _ _ _ _ _ D oD kvs (putF (wayOf i)) _ _ B F1 X T ?kK4 ?kd4 ?ku4 N2 hod hlo (fun k u => j.get k u) b1 b2 b3 ?r4; (case kK4 => first | exact rfl | assumption); (case kd4 => ktr_room); (case ku4 => ktr_units))
        k_whole
        intro t6 h6 tk6 F6 N6' k6
        have N8 := news_kept N1 k6
        clear F1 N1 N2
        (try dsimp only)
        k_steps
        obtain ⟨t2, hv2⟩ := j.item hc1
        (with_reducible rename News _ _ _ _ => N9)
        k_dflt (refine kdt_tail (knd := strKind _ _) N9 (by k_mem) hod ?_)
        k_dflt (refine kdt_getItem (knd := strKind _ _) N9 (by k_mem) hod (strKind_is _ _ _ _) hv2 ?_)
        k_steps
        refine TurnEnd.intro (by k_asm) N9 (fun _ hp => hp) ?_
        rw [jy, hc3, List.map_append]
        rfl
      · intro ys jy D9 h9 tk9 F9 N9 off9
        subst jy
        (try simp only [LCg.Off1, and_true] at off9)
        (try dsimp only)
        have hb9 := hne i hi
        simp only [List.all_cons, List.all_nil, Bool.and_true] at hb9
        k_steps
        · rename_i a
          rw [hb9] at a
          simp at a
        · (with_reducible rename Fr _ _ _ _ => F8)
          (with_reducible rename News _ _ _ _ => N8)
          refine endZ F8 N8 [(L + 4, _), (L + 3, _), (L + 2, c2), (L + 1, c1), (D0, oD0)] (fun p hp => by
            rcases List.mem_cons.mp hp with rfl | hp
            · exact .tail _ (.tail _ (.head _))
            · exact .tail _ (.tail _ (.tail _ hp))) (fun p hp q hq e => ?_) ⟨_, _, _, _, rfl, by assumption, by assumption, rfl, rfl⟩
          rw [List.mem_singleton.mp hq] at e
          rcases List.mem_cons.mp hp with rfl | hp
          · exact hI5 e.symm
          rcases List.mem_cons.mp hp with rfl | hp
          · exact hI4 e.symm
          rcases List.mem_cons.mp hp with rfl | hp
          · exact Nat.ne_of_lt (hI (L + 2, c2) (.tail _ (.tail _ (.head _)))) e
          rcases List.mem_cons.mp hp with rfl | hp
          · exact Nat.ne_of_lt (hI (L + 1, c1) (.tail _ (.tail _ (.tail _ (.head _))))) e
          rcases List.mem_cons.mp hp with rfl | hp
          · exact Nat.ne_of_lt (hI (D0, oD0) (.tail _ (.tail _ (.tail _ (.tail _ (.head _)))))) e
          · cases hp
  · rintro m₁ news ⟨c3', c4', v3', v4', rfl, e3, e4, g1, g2⟩ h tk F2 N2
    exact hret _ _ _ F2
end Mine
end
section
open PySem PySem.W PyProof.Rows
set_option Elab.async false
set_option maxRecDepth 100000
set_option maxHeartbeats 8000000
set_option pp.deepTerms true
set_option pp.proofs false
namespace Mine
theorem s4 {w : World} {p : Program} {loose : List Str} {mean : ExcName → Option Value} {mg mb : Str → Option Value}
    (fa : Addr) (cdv : Value) (base h₀ : Heap) (L : Addr) (m : Str → Option Value) (s : Shared) (Q : Flow → Shared → Prop) (E : Value → Shared → Prop)
    (B : Below callerA base [] h₀) (F : Fr h₀ L s.heap m) (X : (hd3.heap_39 w.params).In h₀) (T : Top p loose mean mg mb h₀)
    (hret : ∀ h tk, Fr h₀ L h m → Q (.ret (.bool true)) { s with heap := h, toks := tk }) :
    wpAny (model PySem.Challenge.rw_pg0249_03.row.prog w) (lawA L fa cdv) (exec (nthS lawBody 4) (lawE L fa cdv)) Q E s := by
  have eS : lawScope = lawScope := rfl
  have eB : nthS lawBody 4 = nthS lawBody 4 := rfl
  (conv at eS => rhs; whnf)
  (conv at eB => rhs; whnf)
  unfold lawA lawE
  rw [eS, eB]
  clear eS eB
  k_steps
  exact hret _ _ F
end Mine
end
section
open PySem PySem.W PyProof.Rows
set_option Elab.async false
set_option maxRecDepth 100000
set_option maxHeartbeats 8000000
set_option pp.deepTerms true
set_option pp.proofs false
namespace Mine
theorem tail_eq : lawBody.drop 1 = [nthS lawBody 1, nthS lawBody 2, nthS lawBody 3, nthS lawBody 4] := rfl
theorem rowsAt_len {h : Heap} {vs : List Value} {rows : List (Str × Str)} (r : RowsAt h vs rows) : vs.length = rows.length := r.length
structure Law3Ok (Inv : Nat → Str → Str → List (Str × Str) → Prop) (Bad : Prop) (k₀ : Nat) (one other : Str) : Prop where
  M : Mach Inv Bad
  h0 : Inv k₀ one other []
  flW1 : ∀ i, ((one.cps.toList.map fun d => putF (wayOf i) ⟨#[d]⟩).map (·.length)).sum ≤ 16000000
  flW2 : ∀ i, ((other.cps.toList.map fun d => putF (wayOf i) ⟨#[d]⟩).map (·.length)).sum ≤ 16000000
  bad : Bad → ∀ i < 27, putOf (putF (wayOf i)) one ≠ putOf (putF (wayOf i)) other
  flT1 : ∀ k b rows, Inv k b b rows → ((one.cps.toList.map fun d => putF (fun k => getOf rows k k) ⟨#[d]⟩).map (·.length)).sum ≤ 16000000
  flT2 : ∀ k b rows, Inv k b b rows → ((other.cps.toList.map fun d => putF (fun k => getOf rows k k) ⟨#[d]⟩).map (·.length)).sum ≤ 16000000
  told : ∀ k b rows, Inv k b b rows → putOf (putF fun k => getOf rows k k) one = putOf (putF fun k => getOf rows k k) other
  gl : ∀ k b rows, Inv k b b rows → ∀ i c, c = 120 ∨ c = 121 ∨ c = 122 → (getOf rows ⟨#[c]⟩ ⟨#[c]⟩).length ≤ 200000 ∧ (getOf rows ⟨#[c]⟩ ⟨#[c]⟩).cps.all (· < 128) = true ∧ (((getOf rows ⟨#[c]⟩ ⟨#[c]⟩).cps.toList.map fun d => putF (wayOf i) ⟨#[d]⟩).map (·.length)).sum ≤ 16000000
  ways : ∀ k b rows, Inv k b b rows → ∀ i < 27, (putOf (putF (wayOf i)) one == putOf (putF (wayOf i)) other) = [120, 121, 122].all fun c => putOf (putF (wayOf i)) (getOf rows ⟨#[c]⟩ ⟨#[c]⟩) == wayOf i ⟨#[c]⟩
theorem tail1 {w : World} {p : Program} {loose : List Str} {mean : ExcName → Option Value} {mg mb : Str → Option Value} (Inv : Nat → Str → Str → List (Str × Str) → Prop) (Bad : Prop) (k₀ : Nat) (one other : Str) (t u : Tok) (ok : Law3Ok Inv Bad k₀ one other)
    (fa : Addr) (cdv : Value) (base h₀ : Heap) (L : Addr) (m : Str → Option Value) (s : Shared) (Q : Flow → Shared → Prop) (E : Value → Shared → Prop) (c1 c2 c3 c4 : Obj)
    (hE : PassesOwn (model PySem.Challenge.rw_pg0249_03.row.prog w) (lawA L fa cdv) (lawE L fa cdv) E)
    (B : Below callerA base [] h₀) (F : Fr h₀ L s.heap m) (X : (hd3.heap_39 w.params).In h₀) (T : Top p loose mean mg mb h₀) (N : News h₀ L s.heap (cells L c1 c2 c3 c4)) (d1 : ∃ v, c1.data = .cell v) (d2 : ∃ v, c2.data = .cell v) (d3 : ∃ v, c3.data = .cell v) (d4 : ∃ v, c4.data = .cell v)
    (hm1 : m (Str.ofString "one") = some (.str one t)) (hm2 : m (Str.ofString "other") = some (.str other u))
    (hret : ∀ h tk m', Fr h₀ L h m' → Q (.ret (.bool true)) { s with heap := h, toks := tk }) :
    wpAny (model PySem.Challenge.rw_pg0249_03.row.prog w) (lawA L fa cdv) (execs (lawBody.drop 1) (lawE L fa cdv)) Q E s := by
  obtain ⟨a1, a2⟩ := ok.M.asc _ _ _ _ ok.h0
  obtain ⟨l1, l2⟩ := ok.M.len _ _ _ _ ok.h0
  rw [tail_eq]
  refine wpAny_execs_cons (s1 Inv Bad ok.M k₀ one other t u ok.h0 fa cdv base h₀ L m s _ E c1 c2 c3 c4 B F X T N d1 hm1 hm2 ?_ ?_)
  · intro h tk c1' e1 hb F N
    (try dsimp only)
    refine wpAny_execs_cons (s2n fa cdv base h₀ L m _ _ E c1' c2 c3 c4 B F X T N e1 ?_)
    intro h tk F N
    (try dsimp only)
    refine wpAny_execs_cons (s3n one other t u fa cdv base h₀ L m _ _ E c1' c2 c3 c4 hE B F X T N e1 d3 d4 hm1 hm2 l1 a1 ok.flW1 l2 a2 ok.flW2 (ok.bad hb) ?_)
    intro h tk m' F
    (try dsimp only)
    exact wpAny_execs_cons (s4 fa cdv base h₀ L m' _ _ E B F X T (fun h tk F => hret h tk m' F))
  · intro x dx l tkd hsh vs n rows k b tups h tk c1' e1 F N jR jT q1 q2 q3 hI
    have ro := ok.M.rows _ _ _ _ hI
    have hv : vs.length ≤ 1000 := by
      have R : RowsAt h vs rows := jR h fun p hp => (N p (List.mem_append_right _ (List.mem_append_right _ hp))).1
      have := R.length
      have := ro.n
      omega
    (try dsimp only)
    refine wpAny_execs_cons (s2r one other t u fa cdv base h₀ L m _ _ E c1' c2 c3 c4 x dx l tkd hsh vs n rows tups B F X T N e1 d2 jR jT q1 q2 q3 hv (fun r hr => (keyFacts (ro.key r hr)).1) hm1 hm2 l1 a1 (ok.flT1 _ _ _ hI) l2 a2 (ok.flT2 _ _ _ hI) (ok.told _ _ _ hI) ?_)
    intro D oD kvs h tk c2' e2 hod j hlo hD F N
    (try dsimp only)
    refine wpAny_execs_cons (s3r one other t u fa cdv base h₀ L m _ _ E c1' c2' c3 c4 x D oD kvs rows hE B F X T N e1 e2 hod j hlo (Nat.ne_of_lt (Nat.lt_trans (Nat.lt_succ_self _) hD)) (Nat.ne_of_lt hD) d3 d4 hm1 hm2 l1 a1 ok.flW1 l2 a2 ok.flW2 (ok.gl _ _ _ hI) (ok.ways _ _ _ hI) ?_)
    intro h tk m' F
    (try dsimp only)
    exact wpAny_execs_cons (s4 fa cdv base h₀ L m' _ _ E B F X T (fun h tk F => hret h tk m' F))
end Mine
end
section
open PySem PySem.W PyProof.Rows PySem.StrLaws PySem.Builtin PySem.Builtin.Str
set_option Elab.async false
set_option maxRecDepth 100000
namespace Mine
theorem at_one {x : Str} {c k : Nat} : At x ⟨#[c]⟩ x.length k ↔ x.cps.toList[k]? = some c := by
  have hl : x.length = x.cps.toList.length := by simp [Str.length]
  unfold At
  rw [subAt_eq]
  have e1 : (⟨#[c]⟩ : Str).length = 1 := rfl
  have e2 : (⟨#[c]⟩ : Str).cps.toList = [c] := rfl
  rw [e1, e2, hl]
  constructor
  · rintro ⟨h1, h2⟩
    have h2 := eq_of_beq h2
    rw [List.drop_eq_getElem_cons (by omega)] at h2
    simp at h2
    rw [List.getElem?_eq_getElem (by omega)]
    simpa using h2
  · intro h
    obtain ⟨h1, h2⟩ := List.getElem?_eq_some_iff.mp h
    refine ⟨h1, ?_⟩
    rw [List.drop_eq_getElem_cons h1, h2]
    simp
def sub1 (c : Nat) (z : List Nat) (l : List Nat) : List Nat := l.flatMap fun d => if d = c then z else [d]
theorem sub1_none {c : Nat} {z : List Nat} : ∀ {l : List Nat}, (∀ d ∈ l, d ≠ c) → sub1 c z l = l
  | [], _ => rfl
  | d :: r, h => by
    have ih := sub1_none (z := z) (l := r) fun e he => h e (.tail _ he)
    unfold sub1 at ih ⊢
    rw [List.flatMap_cons, if_neg (h d (.head _)), ih]
    rfl
theorem join_parts (x z : Str) (c : Nat) : ∀ (cuts : List Nat) (a f : Nat), ChainG x ⟨#[c]⟩ x.length a cuts f → (∀ k, f ≤ k → ¬ At x ⟨#[c]⟩ x.length k) → (Str.join z (partsFrom x 1 a cuts)).cps.toList = sub1 c z.cps.toList (x.cps.toList.drop a)
  | [], a, f, h, hn => by
    have e : f = a := h
    subst e
    show (strSub x f x.length).cps.toList = _
    rw [strSub_toList, sub1_none]
    · exact List.take_of_length_le (by simp [Str.length])
    · intro d hd e
      obtain ⟨i, hi⟩ := List.mem_iff_getElem?.mp hd
      rw [List.getElem?_drop] at hi
      exact hn (f + i) (by omega) (at_one.mpr (by rw [hi, e]))
  | k :: r, a, f, h, hn => by
    obtain ⟨h1, h2, h3, h4⟩ := h
    have h2' := at_one.mp h2
    have ih := join_parts x z c r (k + 1) f h4 hn
    obtain ⟨p, r', hp⟩ := partsFrom_ne x 1 (k + 1) r
    show (Str.join z (strSub x a k :: partsFrom x 1 (k + 1) r)).cps.toList = _
    rw [hp] at ih ⊢
    show (strSub x a k ++ z ++ Str.join z (p :: r')).cps.toList = _
    rw [Str.cps_append, Str.cps_append, Array.toList_append, Array.toList_append, ih, strSub_toList]
    obtain ⟨hk, hkc⟩ := List.getElem?_eq_some_iff.mp h2'
    have e1 : x.cps.toList.drop a = (x.cps.toList.drop a).take (k - a) ++ c :: x.cps.toList.drop (k + 1) := by
      have : (x.cps.toList.drop a).drop (k - a) = c :: x.cps.toList.drop (k + 1) := by
        rw [List.drop_drop, show a + (k - a) = k by omega, List.drop_eq_getElem_cons hk, hkc]
      rw [← this, List.take_append_drop]
    have e2 : sub1 c z.cps.toList ((x.cps.toList.drop a).take (k - a)) = (x.cps.toList.drop a).take (k - a) := by
      refine sub1_none fun d hd e => ?_
      obtain ⟨i, hi⟩ := List.mem_iff_getElem?.mp hd
      rw [List.getElem?_take] at hi
      split at hi
      · rename_i hlt
        rw [List.getElem?_drop] at hi
        exact h3 (a + i) (by omega) (by omega) (at_one.mpr (by rw [hi, e]))
      · cases hi
    conv => rhs; rw [e1]
    unfold sub1 at e2 ⊢
    rw [List.flatMap_append, e2, List.flatMap_cons, if_pos rfl, List.append_assoc]
theorem rep_one (x z : Str) (c : Nat) : (Txt.join z (Txt.split x ⟨#[c]⟩)).cps.toList = sub1 c z.cps.toList x.cps.toList := by
  have hone : (⟨#[c]⟩ : Str).length = 1 := rfl
  obtain ⟨f, h1, h2⟩ := occ_tight x ⟨#[c]⟩ (by rw [hone]; exact Nat.le_refl _)
  have hj : (Str.join z (partsFrom x 1 0 (occurrences x ⟨#[c]⟩ 0 x.length (x.length + 1)))).cps.toList = sub1 c z.cps.toList x.cps.toList := join_parts x z c _ 0 f h1 h2
  have same : (∀ d ∈ x.cps.toList, d ≠ c) → (Txt.join z [x]).cps.toList = sub1 c z.cps.toList x.cps.toList := fun h => by
    rw [sub1_none h]
    rfl
  unfold Txt.split
  split
  · rename_i hc
    refine same fun d hd e => ?_
    rw [hone] at hc
    simp only [Bool.or_eq_true, decide_eq_true_eq] at hc
    rcases hc with hc | hc
    · have : x.cps.toList.length = x.length := by simp [Str.length]
      have := List.length_pos_of_mem hd
      omega
    · have hd' : d ∈ x.cps := by simpa using hd
      have k1 : ∀ m, (∀ e ∈ x.cps, e < m) → d < m := fun m h => h d hd'
      subst e
      unfold Builtin.Str.strKind at hc
      by_cases a1 : x.cps.all (· < 256) = true
      · have b1 : d < 256 := by simpa using (Array.all_eq_true_iff_forall_mem.mp a1) d hd'
        simp [a1, b1] at hc
      · by_cases a2 : x.cps.all (· < 65536) = true
        · have b2 : d < 65536 := by simpa using (Array.all_eq_true_iff_forall_mem.mp a2) d hd'
          rw [if_neg a1, if_pos a2] at hc
          split at hc
          · omega
          · split at hc
            · omega
            · rename_i h9
              simp [b2] at h9
        · rw [if_neg a1, if_neg a2] at hc
          split at hc
          · omega
          · split at hc <;> omega
  · split
    · rename_i he
      refine same fun d hd e => ?_
      have he' := List.isEmpty_iff.mp he
      rw [he'] at h1
      have hf : f = 0 := h1
      obtain ⟨i, hi⟩ := List.mem_iff_getElem?.mp hd
      exact h2 i (by omega) (at_one.mpr (by rw [hi, e]))
    · rw [partsBetween_eq]
      unfold Txt.join
      rw [glued_eq_join]
      exact hj
end Mine
end
section
set_option Elab.async false
namespace Mine
/-- a substitution carried out -/
def sub (s : Nat → List Nat) (l : List Nat) : List Nat := l.flatMap s
theorem sub_nil (s : Nat → List Nat) : sub s [] = [] := rfl
theorem sub_cons (s : Nat → List Nat) (c : Nat) (l : List Nat) : sub s (c :: l) = s c ++ sub s l := rfl
theorem sub_app (s : Nat → List Nat) (l r : List Nat) : sub s (l ++ r) = sub s l ++ sub s r := List.flatMap_append
theorem sub_one (s : Nat → List Nat) (c : Nat) : sub s [c] = s c := by simp [sub]
theorem sub_congr {s t : Nat → List Nat} {l : List Nat} (h : ∀ d ∈ l, s d = t d) : sub s l = sub t l := by
  induction l with
  | nil => rfl
  | cons c r ih => rw [sub_cons, sub_cons, h c (.head _), ih fun d hd => h d (.tail _ hd)]
theorem sub_self {s : Nat → List Nat} {l : List Nat} (h : ∀ d ∈ l, s d = [d]) : sub s l = l := by
  induction l with
  | nil => rfl
  | cons c r ih => rw [sub_cons, h c (.head _), ih fun d hd => h d (.tail _ hd)]; rfl
theorem sub_sub (s t : Nat → List Nat) (l : List Nat) : sub s (sub t l) = sub (fun d => sub s (t d)) l := by
  induction l with
  | nil => rfl
  | cons c r ih => rw [sub_cons, sub_app, ih, sub_cons]
theorem mem_sub {s : Nat → List Nat} {l : List Nat} {d : Nat} : d ∈ sub s l ↔ ∃ c ∈ l, d ∈ s c := List.mem_flatMap
abbrev vr (c : Nat) : Prop := c = 120 ∨ c = 121 ∨ c = 122
def ltr (c : Nat) : Prop := c = 97 ∨ c = 98 ∨ c = 102 ∨ vr c
theorem isT_step (w c : Nat) (r : List Nat) (h : c = 102) : isT (w + 1) (c :: r) = isT (w + 2) r := by
  show (if c = 102 then isT (w + 2) r else isT w r) = _
  rw [if_pos h]
theorem isT_end (w c : Nat) (r : List Nat) (h : c ≠ 102) : isT (w + 1) (c :: r) = isT w r := by
  show (if c = 102 then isT (w + 2) r else isT w r) = _
  rw [if_neg h]
/-- no term is the beginning of another -/
theorem isT_pre : ∀ {w : Nat} {p q r s : List Nat}, isT w p → isT w q → p ++ r = q ++ s → p = q
  | 0, p, q, _, _, hp, hq, _ => (isT_zero hp).trans (isT_zero hq).symm
  | w + 1, [], _, _, _, hp, _, _ => absurd hp id
  | w + 1, _ :: _, [], _, _, _, hq, _ => absurd hq id
  | w + 1, c :: p, d :: q, r, s, hp, hq, e => by
    obtain ⟨rfl, e'⟩ := List.cons.inj (show c :: (p ++ r) = d :: (q ++ s) from e)
    by_cases hc : c = 102
    · rw [isT_step _ _ _ hc] at hp hq
      rw [isT_pre hp hq e']
    · rw [isT_end _ _ _ hc] at hp hq
      rw [isT_pre hp hq e']
theorem isT_app : ∀ {w v : Nat} {p r : List Nat}, isT w p → isT v r → isT (w + v) (p ++ r)
  | 0, v, p, r, hp, hr => by rw [isT_zero hp, Nat.zero_add]; exact hr
  | w + 1, _, [], _, hp, _ => absurd hp id
  | w + 1, v, c :: p, r, hp, hr => by
    have e : w + 1 + v = (w + v) + 1 := by omega
    rw [e]
    show isT (w + v + 1) (c :: (p ++ r))
    by_cases hc : c = 102
    · rw [isT_step _ _ _ hc] at hp ⊢
      have := isT_app hp hr
      rw [show w + v + 2 = w + 2 + v by omega]
      exact this
    · rw [isT_end _ _ _ hc] at hp ⊢
      exact isT_app hp hr
theorem isT_split : ∀ (n : Nat) {w : Nat} {l : List Nat}, l.length ≤ n → isT (w + 1) l → ∃ p r, l = p ++ r ∧ isT 1 p ∧ isT w r
  | n, w, [], _, h => absurd h id
  | 0, w, c :: r, hn, h => absurd hn (by simp)
  | n + 1, w, c :: r, hn, h => by
    have hn' : r.length ≤ n := Nat.le_of_succ_le_succ hn
    by_cases hc : c = 102
    · rw [isT_step _ _ _ hc] at h
      obtain ⟨p1, r1, rfl, h1, h2⟩ := isT_split n hn' h
      obtain ⟨p2, r2, rfl, h3, h4⟩ := isT_split n (by simp at hn' ⊢; omega) h2
      refine ⟨c :: (p1 ++ p2), r2, by simp, ?_, h4⟩
      rw [isT_step _ _ _ hc]
      exact isT_app (w := 1) (v := 1) h1 h3
    · rw [isT_end _ _ _ hc] at h
      refine ⟨[c], r, rfl, ?_, h⟩
      rw [isT_end _ _ _ hc]
      trivial
theorem isT_drop : ∀ {w : Nat} {p r : List Nat}, isT w (p ++ r) → r ≠ [] → ∃ v, isT (v + 1) r
  | 0, p, r, h, hr => by
    have := isT_zero h
    simp only [List.append_eq_nil_iff] at this
    exact absurd this.2 hr
  | w + 1, [], r, h, _ => ⟨w, h⟩
  | w + 1, c :: p, r, h, hr => by
    have h : isT (w + 1) (c :: (p ++ r)) := h
    by_cases hc : c = 102
    · rw [isT_step _ _ _ hc] at h
      exact isT_drop h hr
    · rw [isT_end _ _ _ hc] at h
      exact isT_drop h hr
/-- lists that part -/
theorem parting : ∀ (a b : List Nat), a ≠ b → (∃ pre c a' d b', a = pre ++ c :: a' ∧ b = pre ++ d :: b' ∧ c ≠ d) ∨ (∃ c r, b = a ++ c :: r) ∨ (∃ c r, a = b ++ c :: r)
  | [], [], h => absurd rfl h
  | [], c :: r, _ => .inr (.inl ⟨c, r, rfl⟩)
  | c :: r, [], _ => .inr (.inr ⟨c, r, rfl⟩)
  | c :: a, d :: b, h => by
    by_cases e : c = d
    · subst e
      rcases parting a b (fun q => h (by rw [q])) with ⟨pre, x, a', y, b', rfl, rfl, n⟩ | ⟨x, r, rfl⟩ | ⟨x, r, rfl⟩
      · exact .inl ⟨c :: pre, x, a', y, b', rfl, rfl, n⟩
      · exact .inr (.inl ⟨x, r, rfl⟩)
      · exact .inr (.inr ⟨x, r, rfl⟩)
    · exact .inl ⟨[], c, a, d, b, rfl, rfl, e⟩
theorem cut_ex {a b : List Nat} (ha : isT 1 a) (hb : isT 1 b) (h : a ≠ b) : ∃ pre p q r1 r2, a = pre ++ p ++ r1 ∧ b = pre ++ q ++ r2 ∧ isT 1 p ∧ isT 1 q ∧ ∃ c p' d q', p = c :: p' ∧ q = d :: q' ∧ c ≠ d := by
  rcases parting a b h with ⟨pre, c, a', d, b', rfl, rfl, n⟩ | ⟨c, r, e⟩ | ⟨c, r, e⟩
  · obtain ⟨v, hv⟩ := isT_drop ha (by simp)
    obtain ⟨u, hu⟩ := isT_drop hb (by simp)
    obtain ⟨p, r1, e1, h1, _⟩ := isT_split _ (Nat.le_refl _) hv
    obtain ⟨q, r2, e2, h2, _⟩ := isT_split _ (Nat.le_refl _) hu
    refine ⟨pre, p, q, r1, r2, by rw [e1, List.append_assoc], by rw [e2, List.append_assoc], h1, h2, ?_⟩
    cases p with
    | nil => exact absurd h1 id
    | cons x p' =>
      cases q with
      | nil => exact absurd h2 id
      | cons y q' =>
        cases e1
        cases e2
        exact ⟨_, _, _, _, rfl, rfl, n⟩
  · exact absurd (isT_pre (r := c :: r) (s := []) ha hb (by rw [e, List.append_nil])) h
  · exact absurd (isT_pre (r := []) (s := c :: r) ha hb (by rw [e, List.append_nil])) h
/-- every letter a term, f alone what it was -/
structure Gd (s : Nat → List Nat) : Prop where
  f : ∀ d, ¬ vr d → s d = [d]
  v : ∀ d, vr d → isT 1 (s d)
theorem not_vr_f : ¬ vr 102 := by decide
theorem Gd.one {s : Nat → List Nat} (g : Gd s) {d : Nat} (h : d ≠ 102) : isT 1 (s d) := by
  by_cases hv : vr d
  · exact g.v d hv
  · rw [g.f d hv, isT_end _ _ _ h]
    trivial
theorem isT_sub {s : Nat → List Nat} (g : Gd s) : ∀ {w : Nat} {l : List Nat}, isT w l → isT w (sub s l)
  | 0, l, h => by rw [isT_zero h]; trivial
  | w + 1, [], h => absurd h id
  | w + 1, c :: r, h => by
    rw [sub_cons]
    by_cases hc : c = 102
    · rw [isT_step _ _ _ hc] at h
      subst hc
      rw [g.f _ not_vr_f]
      show isT (w + 1) (102 :: sub s r)
      rw [isT_step _ _ _ rfl]
      exact isT_sub g h
    · rw [isT_end _ _ _ hc] at h
      have := isT_app (g.one hc) (isT_sub g h)
      rw [Nat.add_comm] at this
      exact this
theorem cut_sub {s : Nat → List Nat} (g : Gd s) {pre p q r1 r2 : List Nat} (hp : isT 1 p) (hq : isT 1 q) (h : sub s (pre ++ p ++ r1) = sub s (pre ++ q ++ r2)) : sub s p = sub s q := by
  rw [sub_app, sub_app, sub_app, sub_app, List.append_assoc, List.append_assoc] at h
  exact isT_pre (isT_sub g hp) (isT_sub g hq) (List.append_cancel_left h)
/-- how many letters that are no f -/
def lv (l : List Nat) : Nat := (l.map fun c => if c = 102 then 0 else 1).sum
theorem lv_cons (c : Nat) (l : List Nat) : lv (c :: l) = (if c = 102 then 0 else 1) + lv l := by simp [lv]
theorem lv_app (l r : List Nat) : lv (l ++ r) = lv l + lv r := by simp [lv]
theorem len_lv : ∀ {w : Nat} {l : List Nat}, isT w l → l.length + w = 2 * lv l
  | 0, l, h => by rw [isT_zero h]; rfl
  | w + 1, [], h => absurd h id
  | w + 1, c :: r, h => by
    rw [lv_cons]
    by_cases hc : c = 102
    · rw [isT_step _ _ _ hc] at h
      have := len_lv h
      rw [if_pos hc, List.length_cons]
      omega
    · rw [isT_end _ _ _ hc] at h
      have := len_lv h
      rw [if_neg hc, List.length_cons]
      omega
theorem lv_sub {s : Nat → List Nat} {B : Nat} (hf : s 102 = [102]) (hs : ∀ d, d ≠ 102 → lv (s d) ≤ B) : ∀ l : List Nat, lv (sub s l) ≤ lv l * B
  | [] => by simp [sub, lv]
  | c :: r => by
    have ih := lv_sub hf hs r
    rw [sub_cons, lv_app, lv_cons, Nat.add_mul]
    by_cases hc : c = 102
    · subst hc
      rw [hf, if_pos rfl]
      simp only [lv, List.map_cons, List.map_nil, if_true, List.sum_cons, List.sum_nil] at ih ⊢
      omega
    · rw [if_neg hc, Nat.one_mul]
      have := hs c hc
      omega
theorem len_sub_mem {s : Nat → List Nat} {c : Nat} : ∀ {l : List Nat}, c ∈ l → (s c).length ≤ (sub s l).length
  | d :: r, h => by
    rw [sub_cons, List.length_append]
    rcases List.mem_cons.mp h with rfl | h
    · omega
    · have := len_sub_mem (s := s) h
      omega
end Mine
end
section
set_option Elab.async false
namespace Mine
theorem nodup_le : ∀ {l m : List Nat}, l.Nodup → (∀ x ∈ l, x ∈ m) → l.length ≤ m.length
  | [], _, _, _ => Nat.zero_le _
  | a :: l, m, h, s => by
    have ha := s a (.head _)
    obtain ⟨h1, h2⟩ := List.nodup_cons.mp h
    have := nodup_le (l := l) (m := m.erase a) h2 fun x hx => (List.mem_erase_of_ne (fun e => h1 (by rw [← e]; exact hx))).mpr (s x (.tail _ hx))
    rw [List.length_erase_of_mem ha] at this
    have := List.length_pos_of_mem ha
    rw [List.length_cons]
    omega
def BB : Nat → Nat
  | 0 => 65536
  | 1 => 256
  | 2 => 16
  | _ => 4
def tau (c : Nat) (pt : List Nat) (d : Nat) : List Nat := if d = c then pt else [d]
structure St (A O : List Nat) (k : Nat) (a b vs : List Nat) (t : Nat → List Nat) : Prop where
  ta : isT 1 a
  tb : isT 1 b
  la : ∀ d ∈ a, ltr d
  lb : ∀ d ∈ b, ltr d
  vk : vs.length + k = 3
  vn : vs.Nodup
  vv : ∀ v ∈ vs, vr v
  na : ∀ d ∈ a, d ∉ vs
  nb : ∀ d ∈ b, d ∉ vs
  tt : ∀ v ∈ vs, isT 1 (t v) ∧ (∀ d ∈ t v, ltr d ∧ d ∉ vs) ∧ lv (t v) ≤ BB k
  t0 : ∀ d, d ∉ vs → t d = [d]
  oa : sub t A = a
  ob : sub t O = b
  sem : ∀ s, Gd s → (sub s A = sub s O ↔ sub s a = sub s b ∧ ∀ v ∈ vs, s v = sub s (t v))
  sa : lv a ≤ BB k
  sb : lv b ≤ BB k
theorem St.start {A O : List Nat} (ta : isT 1 A) (tb : isT 1 O) (la : ∀ d ∈ A, ltr d) (lb : ∀ d ∈ O, ltr d) (sa : lv A ≤ 4) (sb : lv O ≤ 4) : St A O 3 A O [] (fun d => [d]) where
  ta := ta
  tb := tb
  la := la
  lb := lb
  vk := rfl
  vn := .nil
  vv := fun _ h => nomatch h
  na := fun _ _ h => nomatch h
  nb := fun _ _ h => nomatch h
  tt := fun _ h => nomatch h
  t0 := fun _ _ => rfl
  oa := sub_self fun _ _ => rfl
  ob := sub_self fun _ _ => rfl
  sem := fun _ _ => ⟨fun h => ⟨h, fun _ h => nomatch h⟩, fun h => h.1⟩
  sa := sa
  sb := sb
theorem vr_ltr {c : Nat} (h : vr c) : ltr c := .inr (.inr (.inr h))
theorem vr_ne {c : Nat} (h : vr c) : c ≠ 102 := by rintro rfl; exact absurd h (by decide)
theorem tau_gd {c : Nat} {pt : List Nat} (hc : vr c) (hp : isT 1 pt) : Gd (tau c pt) := ⟨fun d hd => by
    unfold tau
    rw [if_neg (fun e => hd (by rw [e]; exact hc))], fun d hd => by
    unfold tau
    by_cases e : d = c
    · rw [if_pos e]
      exact hp
    · rw [if_neg e, isT_end _ _ _ (vr_ne hd)]
      trivial⟩
theorem tau_mem {c : Nat} {pt l : List Nat} {d : Nat} (h : d ∈ sub (tau c pt) l) : d ∈ pt ∨ d ∈ l ∧ d ≠ c := by
  obtain ⟨e, he, hd⟩ := mem_sub.mp h
  unfold tau at hd
  by_cases q : e = c
  · rw [if_pos q] at hd
    exact .inl hd
  · rw [if_neg q] at hd
    rw [List.mem_singleton.mp hd]
    exact .inr ⟨he, q⟩
theorem tau_lv {c B : Nat} {pt l : List Nat} (hc : vr c) (h1 : 1 ≤ B) (hp : lv pt ≤ B) (hl : lv l ≤ B) : lv (sub (tau c pt) l) ≤ B * B := by
  refine Nat.le_trans (lv_sub (s := tau c pt) (B := B) ?_ ?_ l) (Nat.mul_le_mul_right _ hl)
  · unfold tau
    rw [if_neg (fun e => vr_ne hc e.symm)]
  · intro d hd
    unfold tau
    split
    · exact hp
    · rw [lv_cons, if_neg hd]
      exact h1
theorem BB_step {k : Nat} (h1 : 1 ≤ k) (h3 : k ≤ 3) : BB k * BB k = BB (k - 1) := by
  match k, h1, h3 with
  | 1, _, _ => rfl
  | 2, _, _ => rfl
  | 3, _, _ => rfl
theorem BB_pos (k : Nat) : 1 ≤ BB k := by
  unfold BB
  split <;> decide
theorem tau_sub {s : Nat → List Nat} {c : Nat} {pt : List Nat} (h : s c = sub s pt) (l : List Nat) : sub s (sub (tau c pt) l) = sub s l := by
  rw [sub_sub]
  refine sub_congr fun d _ => ?_
  unfold tau
  by_cases e : d = c
  · rw [if_pos e, e, h]
  · rw [if_neg e, sub_one]
theorem St.room {A O : List Nat} {k : Nat} {a b vs : List Nat} {t : Nat → List Nat} (S : St A O k a b vs t) {c : Nat} (hc : vr c) (h : c ∉ vs) : 1 ≤ k := by
  have := nodup_le (l := c :: vs) (m := [120, 121, 122]) (List.nodup_cons.mpr ⟨h, S.vn⟩) fun x hx => by
    have hv : vr x := by
      rcases List.mem_cons.mp hx with rfl | hx
      · exact hc
      · exact S.vv x hx
    rcases hv with rfl | rfl | rfl <;> decide
  have hk := S.vk
  simp only [List.length_cons, List.length_nil] at this
  omega
theorem St.step {A O : List Nat} {k : Nat} {a b vs : List Nat} {t : Nat → List Nat} (S : St A O k a b vs t) {pre p q r1 r2 pt : List Nat} {c : Nat} (hc : vr c) (ha : a = pre ++ p ++ r1) (hb : b = pre ++ q ++ r2) (tp : isT 1 p) (tq : isT 1 q) (h : p = [c] ∧ pt = q ∨ q = [c] ∧ pt = p) (hn : c ∉ pt) :
    1 ≤ k ∧ isT 1 pt ∧ (∀ d ∈ pt, ltr d) ∧ St A O (k - 1) (sub (tau c pt) a) (sub (tau c pt) b) (vs ++ [c]) (fun d => sub (tau c pt) (t d)) := by
  have pa : ∀ d ∈ p, d ∈ a := fun d hd => by rw [ha]; simp [hd]
  have qb : ∀ d ∈ q, d ∈ b := fun d hd => by rw [hb]; simp [hd]
  have lp : lv p ≤ lv a := by rw [ha, lv_app, lv_app]; omega
  have lq : lv q ≤ lv b := by rw [hb, lv_app, lv_app]; omega
  have cv : c ∉ vs := by
    rcases h with ⟨rfl, _⟩ | ⟨rfl, _⟩
    · exact S.na c (pa c (.head _))
    · exact S.nb c (qb c (.head _))
  have hpt : isT 1 pt ∧ (∀ d ∈ pt, ltr d ∧ d ∉ vs) ∧ lv pt ≤ BB k := by
    rcases h with ⟨_, rfl⟩ | ⟨_, rfl⟩
    · exact ⟨tq, fun d hd => ⟨S.lb d (qb d hd), S.nb d (qb d hd)⟩, Nat.le_trans lq S.sb⟩
    · exact ⟨tp, fun d hd => ⟨S.la d (pa d hd), S.na d (pa d hd)⟩, Nat.le_trans lp S.sa⟩
  obtain ⟨p1, p2, p3⟩ := hpt
  have k1 := S.room hc cv
  have k3 : k ≤ 3 := by have := S.vk; omega
  have g := tau_gd hc p1
  have hl : ∀ l : List Nat, (∀ d ∈ l, ltr d) → ∀ d ∈ sub (tau c pt) l, ltr d := fun l hl d hd => by
    rcases tau_mem hd with h | ⟨h, _⟩
    · exact (p2 d h).1
    · exact hl d h
  have hv : ∀ l : List Nat, (∀ d ∈ l, d ∉ vs) → ∀ d ∈ sub (tau c pt) l, d ∉ vs ++ [c] := fun l hl d hd hm => by
    rcases List.mem_append.mp hm with hm | hm
    · rcases tau_mem hd with h | ⟨h, _⟩
      · exact (p2 d h).2 hm
      · exact hl d h hm
    · have e := List.mem_singleton.mp hm
      subst e
      rcases tau_mem hd with h | ⟨_, h⟩
      · exact hn h
      · exact h rfl
  have tc : sub (tau c pt) (t c) = pt := by
    rw [S.t0 c cv, sub_one]
    unfold tau
    rw [if_pos rfl]
  refine ⟨k1, p1, fun d hd => (p2 d hd).1, ?_⟩
  refine ⟨isT_sub g S.ta, isT_sub g S.tb, hl _ S.la, hl _ S.lb, ?_, ?_, ?_, hv _ S.na, hv _ S.nb, ?_, ?_, ?_, ?_, ?_, ?_, ?_⟩
  · have := S.vk
    rw [List.length_append, List.length_singleton]
    omega
  · refine List.nodup_append.mpr ⟨S.vn, List.nodup_cons.mpr ⟨(fun h => nomatch h), List.nodup_nil⟩, fun x hx y hy e => ?_⟩
    rw [List.mem_singleton.mp hy] at e
    exact cv (by rw [← e]; exact hx)
  · intro v hv
    rcases List.mem_append.mp hv with hv | hv
    · exact S.vv v hv
    · rw [List.mem_singleton.mp hv]
      exact hc
  · intro v hm
    rcases List.mem_append.mp hm with hm | hm
    · obtain ⟨h1, h2, h3⟩ := S.tt v hm
      refine ⟨isT_sub g h1, fun d hd => ⟨hl _ (fun d hd => (h2 d hd).1) d hd, hv _ (fun d hd => (h2 d hd).2) d hd⟩, ?_⟩
      rw [← BB_step k1 k3]
      exact tau_lv hc (BB_pos k) p3 h3
    · rw [List.mem_singleton.mp hm, tc]
      refine ⟨p1, fun d hd => ⟨(p2 d hd).1, fun hm => ?_⟩, ?_⟩
      · rcases List.mem_append.mp hm with hm | hm
        · exact (p2 d hd).2 hm
        · rw [List.mem_singleton.mp hm] at hd
          exact hn hd
      · rw [← BB_step k1 k3]
        exact Nat.le_trans p3 (Nat.le_mul_of_pos_left _ (BB_pos k))
  · intro d hd
    rw [S.t0 d (fun h => hd (List.mem_append_left _ h)), sub_one]
    unfold tau
    rw [if_neg (fun e => hd (List.mem_append_right _ (by rw [e]; exact .head _)))]
  · rw [← sub_sub, S.oa]
  · rw [← sub_sub, S.ob]
  · intro s gs
    rw [S.sem s gs]
    have key : s c = sub s pt → ((sub s a = sub s b ∧ ∀ v ∈ vs, s v = sub s (t v)) ↔ (sub s (sub (tau c pt) a) = sub s (sub (tau c pt) b) ∧ ∀ v ∈ vs ++ [c], s v = sub s (sub (tau c pt) (t v)))) := by
      intro e
      rw [tau_sub e, tau_sub e]
      refine and_congr_right fun _ => ⟨fun h v hv => ?_, fun h v hv => ?_⟩
      · rw [tau_sub e]
        rcases List.mem_append.mp hv with hv | hv
        · exact h v hv
        · rw [List.mem_singleton.mp hv, S.t0 c cv, sub_one]
      · have := h v (List.mem_append_left _ hv)
        rw [tau_sub e] at this
        exact this
    constructor
    · intro hh
      refine (key ?_).mp hh
      have := hh.1
      rw [ha, hb] at this
      have := cut_sub gs tp tq this
      rcases h with ⟨rfl, rfl⟩ | ⟨rfl, rfl⟩
      · rw [sub_one] at this
        exact this
      · rw [sub_one] at this
        exact this.symm
    · intro hh
      refine (key ?_).mpr hh
      have := hh.2 c (List.mem_append_right _ (.head _))
      rw [tc] at this
      exact this
  · rw [← BB_step k1 k3]
    exact tau_lv hc (BB_pos k) p3 S.sa
  · rw [← BB_step k1 k3]
    exact tau_lv hc (BB_pos k) p3 S.sb
/-- two parts that begin with unlike signs, none a variable: nothing makes them one -/
theorem St.clash {A O : List Nat} {k : Nat} {a b vs : List Nat} {t : Nat → List Nat} (S : St A O k a b vs t) {pre p q r1 r2 : List Nat} (ha : a = pre ++ p ++ r1) (hb : b = pre ++ q ++ r2) (tp : isT 1 p) (tq : isT 1 q) (hd : ∃ c p' d q', p = c :: p' ∧ q = d :: q' ∧ c ≠ d) (hp : isV p = false) (hq : isV q = false) : ∀ s, Gd s → sub s A ≠ sub s O := by
  intro s gs e
  have h := ((S.sem s gs).mp e).1
  rw [ha, hb] at h
  have h := cut_sub gs tp tq h
  obtain ⟨c, p', d, q', rfl, rfl, ne⟩ := hd
  have nv : ∀ {c : Nat} {r : List Nat}, isT 1 (c :: r) → isV (c :: r) = false → ¬ vr c := by
    intro c r ht hv hc
    rw [isT_end _ _ _ (vr_ne hc)] at ht
    rw [isT_zero ht, isV_one] at hv
    exact absurd hc (of_decide_eq_false hv)
  rw [sub_cons, sub_cons, gs.f c (nv tp hp), gs.f d (nv tq hq)] at h
  exact ne (List.cons.inj h).1
theorem occ_len {s : Nat → List Nat} {q : List Nat} {c : Nat} (gs : Gd s) (hq : isT 1 q) (hc : vr c) (h : c ∈ q) (hd : q ≠ [c]) : s c ≠ sub s q := by
  intro e
  rcases isT_one hq with ⟨d, rfl, _⟩ | ⟨r, rfl⟩
  · rw [List.mem_singleton.mp h] at hd
    exact hd rfl
  · rw [sub_cons, gs.f _ not_vr_f] at e
    have hm : c ∈ r := by
      rcases List.mem_cons.mp h with h | h
      · exact absurd h (vr_ne hc)
      · exact h
    have := len_sub_mem (s := s) hm
    rw [e] at this
    simp at this
    omega
theorem St.occ {A O : List Nat} {k : Nat} {a b vs : List Nat} {t : Nat → List Nat} (S : St A O k a b vs t) {pre p q r1 r2 : List Nat} {c : Nat} (ha : a = pre ++ p ++ r1) (hb : b = pre ++ q ++ r2) (tp : isT 1 p) (tq : isT 1 q) (hd : p ≠ q) (hc : vr c) (h : p = [c] ∧ c ∈ q ∨ q = [c] ∧ c ∈ p) : ∀ s, Gd s → sub s A ≠ sub s O := by
  intro s gs e
  have e := ((S.sem s gs).mp e).1
  rw [ha, hb] at e
  have e := cut_sub gs tp tq e
  rcases h with ⟨rfl, h⟩ | ⟨rfl, h⟩
  · rw [sub_one] at e
    exact occ_len gs tq hc h (Ne.symm hd) e
  · rw [sub_one] at e
    exact occ_len gs tp hc h hd e.symm
end Mine
end
section
set_option Elab.async false
set_option maxRecDepth 100000
open PySem PySem.W PyProof.Rows
namespace Mine
theorem strExt {a b : Str} (h : a.cps.toList = b.cps.toList) : a = b := by
  cases a
  cases b
  congr 1
  exact Array.toList_inj.mp h
def keyOf (v : Nat) : Str := ⟨#[v - 32]⟩
def rowsOf3 (vs : List Nat) (t : Nat → List Nat) : List (Str × Str) := vs.map fun v => (keyOf v, ⟨(t v).toArray⟩)
def Inv3 (A O : List Nat) (k : Nat) (a b : Str) (rows : List (Str × Str)) : Prop := ∃ vs t, St A O k a.cps.toList b.cps.toList vs t ∧ rows = rowsOf3 vs t
def Bad3 (A O : List Nat) : Prop := ∀ s, Gd s → sub s A ≠ sub s O
theorem rep_tau (x : Str) (c : Nat) (pt : List Nat) : (rep x ⟨#[c]⟩ ⟨pt.toArray⟩).cps.toList = sub (tau c pt) x.cps.toList := by
  unfold rep
  rw [rep_one]
  rfl
theorem ltr_lt {d : Nat} (h : ltr d) : 32 ≤ d ∧ d < 127 := by
  rcases h with rfl | rfl | rfl | rfl | rfl | rfl <;> decide
theorem ltr_asc {x : Str} (h : ∀ d ∈ x.cps.toList, ltr d) : x.cps.all (· < 128) = true := by
  rw [← Array.all_toList, List.all_eq_true]
  intro d hd
  have := (ltr_lt (h d hd)).2
  simp
  omega
theorem ltr_plain {x : Str} (h : ∀ d ∈ x.cps.toList, ltr d) : Plain x := by
  intro i hi
  rw [show x.cps.getD i 0 = x.cps[i] by simp [Array.getD, hi]]
  exact ltr_lt (h _ (by simp))
theorem BB_le (k : Nat) : BB k ≤ 65536 := by
  unfold BB
  split <;> decide
theorem BB_small {k : Nat} (h : 1 ≤ k) : BB k ≤ 256 := by
  match k, h with
  | 1, _ => decide
  | 2, _ => decide
  | n + 3, _ => exact (show (4 : Nat) ≤ 256 by decide)
theorem strLen (x : Str) : x.length = x.cps.toList.length := by simp [Str.length]
theorem isT_len {x : Str} {B : Nat} (h : isT 1 x.cps.toList) (hl : lv x.cps.toList ≤ B) : x.length ≤ 2 * B := by
  have := len_lv h
  rw [strLen]
  omega
theorem keyOf_ok {v : Nat} (h : vr v) : KeyOk (keyOf v) := by
  rcases h with rfl | rfl | rfl
  · exact .inl rfl
  · exact .inr (.inl rfl)
  · exact .inr (.inr rfl)
theorem keyOf_inj {v u : Nat} (hv : vr v) (hu : vr u) (h : keyOf v = keyOf u) : v = u := by
  have : (keyOf v).cps.toList = (keyOf u).cps.toList := by rw [h]
  have : v - 32 = u - 32 := List.head_eq_of_cons_eq this
  rcases hv with rfl | rfl | rfl <;> rcases hu with rfl | rfl | rfl <;> first | rfl | (exfalso; revert this; decide)
theorem keyOf_low {v c : Nat} (hv : vr v) (hc : vr c) : (Txt.lower (keyOf v) == Txt.lower (⟨#[c]⟩ : Str)) = decide (v = c) := by
  rcases hv with rfl | rfl | rfl <;> rcases hc with rfl | rfl | rfl <;> decide +kernel
theorem keys_nodup : ∀ {vs : List Nat} (_ : vs.Nodup) (_ : ∀ v ∈ vs, vr v), (vs.map keyOf).Nodup
  | [], _, _ => List.nodup_nil
  | v :: vs, hn, hv => by
    obtain ⟨h1, h2⟩ := List.nodup_cons.mp hn
    rw [List.map_cons]
    refine List.nodup_cons.mpr ⟨fun hm => ?_, keys_nodup h2 fun v h => hv v (.tail _ h)⟩
    obtain ⟨u, hu, e⟩ := List.mem_map.mp hm
    have := keyOf_inj (hv u (.tail _ hu)) (hv v (.head _)) e
    exact h1 (by rw [← this]; exact hu)
theorem St.told {A O : List Nat} {k : Nat} {a b vs : List Nat} {t : Nat → List Nat} (S : St A O k a b vs t) {c : Nat} (hc : vr c) : getOf (rowsOf3 vs t) ⟨#[c]⟩ ⟨#[c]⟩ = ⟨(t c).toArray⟩ := by
  unfold getOf rowsOf3
  rw [List.find?_map]
  have e : ∀ l : List Nat, (∀ v ∈ l, vr v) → l.find? ((fun r : Str × Str => Txt.lower r.1 == Txt.lower (⟨#[c]⟩ : Str)) ∘ fun v => (keyOf v, (⟨(t v).toArray⟩ : Str))) = if c ∈ l then some c else none := by
    intro l
    induction l with
    | nil => intro _; rfl
    | cons v l ih =>
      intro hv
      rw [List.find?_cons]
      simp only [Function.comp]
      rw [keyOf_low (hv v (.head _)) hc]
      by_cases q : v = c
      · subst q
        simp
      · have h1 := ih fun v h => hv v (.tail _ h)
        have h2 : (c ∈ v :: l) ↔ c ∈ l := by
          rw [List.mem_cons]
          exact ⟨fun h => h.resolve_left (Ne.symm q), .inr⟩
        simp only [h2]
        rw [decide_eq_false q]
        exact h1
  rw [e vs S.vv]
  by_cases h : c ∈ vs
  · rw [if_pos h]
    rfl
  · rw [if_neg h, S.t0 c h]
    rfl
theorem mach3 (A O : List Nat) : Mach (Inv3 A O) (Bad3 A O) where
  asc := by
    rintro k a b rows ⟨vs, t, S, rfl⟩
    exact ⟨ltr_asc S.la, ltr_asc S.lb⟩
  len := by
    rintro k a b rows ⟨vs, t, S, rfl⟩
    have := BB_le k
    have h1 := isT_len S.ta S.sa
    have h2 := isT_len S.tb S.sb
    omega
  rows := by
    rintro k a b rows ⟨vs, t, S, rfl⟩
    have := S.vk
    have := BB_le k
    refine ⟨by unfold rowsOf3; rw [List.length_map]; omega, fun r hr => ?_, ?_, fun r hr => ?_, fun r hr => ?_⟩
    · obtain ⟨v, hv, rfl⟩ := List.mem_map.mp hr
      exact keyOf_ok (S.vv v hv)
    · unfold rowsOf3
      rw [List.map_map]
      exact keys_nodup S.vn S.vv
    · obtain ⟨v, hv, rfl⟩ := List.mem_map.mp hr
      exact ltr_plain fun d hd => ((S.tt v hv).2.1 d (by simpa using hd)).1
    · obtain ⟨v, hv, rfl⟩ := List.mem_map.mp hr
      have := isT_len (x := ⟨(t v).toArray⟩) (B := BB k) (by simpa using (S.tt v hv).1) (by simpa using (S.tt v hv).2.2)
      exact Nat.le_trans this (by omega)
  cut := by
    rintro k a b rows ⟨vs, t, S, rfl⟩ h
    obtain ⟨pre, p, q, r1, r2, e1, e2, h1, h2, h3⟩ := cut_ex S.ta S.tb fun e => h (strExt e)
    exact ⟨pre, p, q, r1, r2, e1, e2, h1, h2, h3⟩
  bad := by
    rintro k a b rows pre p q r1 r2 ⟨vs, t, S, rfl⟩ C hp hq
    exact S.clash C.ha C.hb C.tp C.tq C.hd hp hq
  occ := by
    rintro k a b rows pre p q r1 r2 c ⟨vs, t, S, rfl⟩ C h
    have ne : p ≠ q := by
      obtain ⟨c, p', d, q', e1, e2, n⟩ := C.hd
      intro e
      rw [e1, e2] at e
      exact n (List.cons.inj e).1
    rcases h with ⟨e, hv, h⟩ | ⟨e, _, hv, h⟩
    · subst e
      rw [isV_one] at hv
      exact S.occ C.ha C.hb C.tp C.tq ne (of_decide_eq_true hv) (.inl ⟨rfl, h⟩)
    · subst e
      rw [isV_one] at hv
      exact S.occ C.ha C.hb C.tp C.tq ne (of_decide_eq_true hv) (.inr ⟨rfl, h⟩)
  small := by
    rintro k a b rows pre p q r1 r2 ⟨vs, t, S, rfl⟩ C h
    have k1 : 1 ≤ k := by
      rcases h with h | h
      · obtain ⟨c, rfl, hc⟩ := isV_get h
        exact S.room hc (S.na c (by rw [C.ha]; simp))
      · obtain ⟨c, rfl, hc⟩ := isV_get h
        exact S.room hc (S.nb c (by rw [C.hb]; simp))
    have := BB_small k1
    have h1 := isT_len S.ta S.sa
    have h2 := isT_len S.tb S.sb
    refine ⟨by omega, by omega, fun r hr => ?_⟩
    obtain ⟨v, hv, rfl⟩ := List.mem_map.mp hr
    have := isT_len (x := ⟨(t v).toArray⟩) (B := BB k) (by simpa using (S.tt v hv).1) (by simpa using (S.tt v hv).2.2)
    exact Nat.le_trans this (by omega)
  step := by
    rintro k a b rows pre p q r1 r2 c pt ⟨vs, t, S, rfl⟩ C h hn
    have hc : vr c := by
      rcases h with ⟨rfl, hv, _⟩ | ⟨rfl, _, hv, _⟩ <;> (rw [isV_one] at hv; exact of_decide_eq_true hv)
    obtain ⟨k1, p1, p2, S'⟩ := S.step hc C.ha C.hb C.tp C.tq (h.imp (fun h => ⟨h.1, h.2.2⟩) (fun h => ⟨h.1, h.2.2.2⟩)) hn
    refine ⟨k1, ltr_plain (x := ⟨pt.toArray⟩) (by simpa using p2), vs ++ [c], (fun d => sub (tau c pt) (t d)), ?_, ?_⟩
    · rw [rep_tau, rep_tau]
      exact S'
    · unfold rowsOf3
      rw [List.map_append, List.map_map]
      have cv : c ∉ vs := by
        rcases h with ⟨rfl, _, _⟩ | ⟨rfl, _, _, _⟩
        · exact S.na c (by rw [C.ha]; simp)
        · exact S.nb c (by rw [C.hb]; simp)
      congr 1
      · refine List.map_congr_left fun v _ => ?_
        show (keyOf v, rep ⟨(t v).toArray⟩ ⟨#[c]⟩ ⟨pt.toArray⟩) = (keyOf v, _)
        congr 1
        refine strExt ?_
        rw [rep_tau]
      · rw [List.map_singleton]
        (try dsimp only)
        rw [S.t0 c cv, sub_one]
        unfold tau
        rw [if_pos rfl]
        rfl
end Mine
end
section
set_option Elab.async false
set_option maxRecDepth 100000
open PySem PySem.W PyProof.Rows
namespace Mine
theorem letT_is (n : Int) (k : Nat) : ∃ c, (letT n k).cps.toList = [c] ∧ c ≠ 102 ∧ ltr c := by
  unfold letT
  have h0 := Int.fmod_nonneg_of_pos ((n.fdiv 4).fdiv (5 ^ (0 + (k : Int)).toNat)) (b := 5) (by decide)
  have h1 := Int.fmod_lt_of_pos ((n.fdiv 4).fdiv (5 ^ (0 + (k : Int)).toNat)) (b := 5) (by decide)
  generalize ((n.fdiv 4).fdiv (5 ^ (0 + (k : Int)).toNat)).fmod 5 = i at h0 h1
  have : i = 0 ∨ i = 1 ∨ i = 2 ∨ i = 3 ∨ i = 4 := by omega
  rcases this with rfl | rfl | rfl | rfl | rfl
  · exact ⟨97, by decide +kernel, by decide, .inl rfl⟩
  · exact ⟨98, by decide +kernel, by decide, .inr (.inl rfl)⟩
  · exact ⟨120, by decide +kernel, by decide, vr_ltr (.inl rfl)⟩
  · exact ⟨121, by decide +kernel, by decide, vr_ltr (.inr (.inl rfl))⟩
  · exact ⟨122, by decide +kernel, by decide, vr_ltr (.inr (.inr rfl))⟩
theorem f_cps : (Str.ofString "f").cps.toList = [102] := by decide +kernel
theorem ltr_f : ltr 102 := .inr (.inr (.inl rfl))
theorem termOf_is (n : Int) : isT 1 (termOf n).cps.toList ∧ (∀ d ∈ (termOf n).cps.toList, ltr d) ∧ lv (termOf n).cps.toList ≤ 4 := by
  obtain ⟨c0, e0, n0, l0⟩ := letT_is n 0
  obtain ⟨c1, e1, n1, l1⟩ := letT_is n 1
  obtain ⟨c2, e2, n2, l2⟩ := letT_is n 2
  obtain ⟨c3, e3, n3, l3⟩ := letT_is n 3
  unfold termOf
  split
  · split
    · simp only [Str.cps_append, Array.toList_append, f_cps, e0, e1, e2, e3, List.cons_append, List.nil_append]
      refine ⟨by simp [isT, n0, n1, n2, n3], ?_, by simp [lv, n0, n1, n2, n3]⟩
      intro d hd
      simp only [List.mem_cons, List.not_mem_nil, or_false] at hd
      rcases hd with rfl | rfl | rfl | rfl | rfl | rfl | rfl <;> first | assumption | exact ltr_f
    · simp only [Str.cps_append, Array.toList_append, f_cps, e0, e1, e2, e3, List.cons_append, List.nil_append]
      refine ⟨by simp [isT, n0, n1, n2, n3], ?_, by simp [lv, n0, n1, n2, n3]⟩
      intro d hd
      simp only [List.mem_cons, List.not_mem_nil, or_false] at hd
      rcases hd with rfl | rfl | rfl | rfl | rfl <;> first | assumption | exact ltr_f
  · split
    · simp only [Str.cps_append, Array.toList_append, f_cps, e0, e1, e2, e3, List.cons_append, List.nil_append]
      refine ⟨by simp [isT, n0, n1, n2, n3], ?_, by simp [lv, n0, n1, n2, n3]⟩
      intro d hd
      simp only [List.mem_cons, List.not_mem_nil, or_false] at hd
      rcases hd with rfl | rfl | rfl | rfl | rfl <;> first | assumption | exact ltr_f
    · simp only [Str.cps_append, Array.toList_append, f_cps, e0, e1, e2, e3, List.cons_append, List.nil_append]
      refine ⟨by simp [isT, n0, n1, n2, n3], ?_, by simp [lv, n0, n1, n2, n3]⟩
      intro d hd
      simp only [List.mem_cons, List.not_mem_nil, or_false] at hd
      rcases hd with rfl | rfl | rfl <;> first | assumption | exact ltr_f
theorem sum_le {α : Type} {f : α → Nat} {B : Nat} : ∀ {l : List α}, (∀ x ∈ l, f x ≤ B) → (l.map f).sum ≤ l.length * B
  | [], _ => Nat.zero_le _
  | x :: l, h => by
    have ih := sum_le (l := l) fun y hy => h y (.tail _ hy)
    have := h x (.head _)
    rw [List.map_cons, List.sum_cons, List.length_cons, Nat.add_mul]
    omega
theorem fl_le {f : Str → Str} {x : Str} {B n : Nat} (h : ∀ d, (f ⟨#[d]⟩).length ≤ B) (hx : x.length ≤ n) : ((x.cps.toList.map fun d => f ⟨#[d]⟩).map (·.length)).sum ≤ n * B := by
  rw [List.map_map]
  refine Nat.le_trans (sum_le (B := B) fun d _ => h d) (Nat.mul_le_mul_right _ ?_)
  rw [← strLen]
  exact hx
theorem oneVr {d : Nat} : ((⟨#[d]⟩ : Str) = ⟨#[120]⟩ ∨ (⟨#[d]⟩ : Str) = ⟨#[121]⟩ ∨ (⟨#[d]⟩ : Str) = ⟨#[122]⟩) ↔ vr d := by
  have h : ∀ c : Nat, (⟨#[d]⟩ : Str) = ⟨#[c]⟩ ↔ d = c := fun c => ⟨fun e => by
    have : (⟨#[d]⟩ : Str).cps.toList = (⟨#[c]⟩ : Str).cps.toList := by rw [e]
    exact List.head_eq_of_cons_eq this, fun e => by rw [e]⟩
  rw [h, h, h]
theorem putF_vr {f : Str → Str} {d : Nat} (h : vr d) : putF f ⟨#[d]⟩ = f ⟨#[d]⟩ := if_pos (oneVr.mpr h)
theorem putF_no {f : Str → Str} {d : Nat} (h : ¬ vr d) : putF f ⟨#[d]⟩ = ⟨#[d]⟩ := if_neg fun q => h (oneVr.mp q)
theorem pick_is (r : Nat) : isT 1 (pick r).cps.toList ∧ (pick r).length ≤ 3 := by
  unfold pick
  split
  · exact ⟨by rw [show (Str.ofString "a").cps.toList = [97] by decide +kernel]; simp [isT], by decide +kernel⟩
  · split
    · exact ⟨by rw [show (Str.ofString "faa").cps.toList = [102, 97, 97] by decide +kernel]; simp [isT], by decide +kernel⟩
    · exact ⟨by rw [show (Str.ofString "fab").cps.toList = [102, 97, 98] by decide +kernel]; simp [isT], by decide +kernel⟩
def way (i d : Nat) : List Nat := (putF (wayOf i) ⟨#[d]⟩).cps.toList
theorem way_gd (i : Nat) : Gd (way i) := ⟨fun d h => by
    unfold way
    rw [putF_no h], fun d h => by
    unfold way
    rw [putF_vr h]
    exact (pick_is _).1⟩
theorem way_len (i d : Nat) : (putF (wayOf i) ⟨#[d]⟩).length ≤ 3 := by
  by_cases h : vr d
  · rw [putF_vr h]
    exact (pick_is _).2
  · rw [putF_no h]
    exact Nat.le_of_ble_eq_true rfl
theorem putOf_way (i : Nat) (x : Str) : putOf (putF (wayOf i)) x = ⟨(sub (way i) x.cps.toList).toArray⟩ := rfl
theorem mk_inj {a b : List Nat} : ((⟨a.toArray⟩ : Str) = ⟨b.toArray⟩) ↔ a = b := ⟨fun e => by
  have : (⟨a.toArray⟩ : Str).cps.toList = (⟨b.toArray⟩ : Str).cps.toList := by rw [e]
  simpa using this, fun e => by rw [e]⟩
theorem St.putT {A O : List Nat} {k : Nat} {a b vs : List Nat} {t : Nat → List Nat} (S : St A O k a b vs t) (x : Str) : putOf (putF fun k => getOf (rowsOf3 vs t) k k) x = ⟨(sub t x.cps.toList).toArray⟩ := by
  unfold putOf sub
  congr 2
  refine congrArg (fun f => List.flatMap f x.cps.toList) (funext fun d => ?_)
  by_cases h : vr d
  · rw [putF_vr h, S.told h]
  · rw [putF_no h, S.t0 d fun q => h (S.vv d q)]
theorem law3Ok (n1 n2 : Int) : Law3Ok (Inv3 (termOf n1).cps.toList (termOf n2).cps.toList) (Bad3 (termOf n1).cps.toList (termOf n2).cps.toList) 3 (termOf n1) (termOf n2) := by
  obtain ⟨a1, a2, a3⟩ := termOf_is n1
  obtain ⟨b1, b2, b3⟩ := termOf_is n2
  have x1 := isT_len a1 a3
  have x2 := isT_len b1 b3
  have ways : ∀ x : Str, x.length ≤ 200000 → ∀ i, ((x.cps.toList.map fun d => putF (wayOf i) ⟨#[d]⟩).map (·.length)).sum ≤ 16000000 := fun x hx i =>
    Nat.le_trans (fl_le (B := 3) (way_len i) hx) (by decide)
  have gets : ∀ {k : Nat} {a b vs : List Nat} {t : Nat → List Nat}, St (termOf n1).cps.toList (termOf n2).cps.toList k a b vs t → ∀ {c : Nat}, vr c → (getOf (rowsOf3 vs t) ⟨#[c]⟩ ⟨#[c]⟩).length ≤ 200000 ∧ (getOf (rowsOf3 vs t) ⟨#[c]⟩ ⟨#[c]⟩).cps.all (· < 128) = true := by
    intro k a b vs t S c hc
    rw [S.told hc]
    by_cases h : c ∈ vs
    · obtain ⟨h1, h2, h3⟩ := S.tt c h
      have := BB_le k
      have := isT_len (x := ⟨(t c).toArray⟩) (B := BB k) (by simpa using h1) (by simpa using h3)
      exact ⟨by omega, ltr_asc (x := ⟨(t c).toArray⟩) (by simpa using fun d hd => (h2 d hd).1)⟩
    · rw [S.t0 c h]
      refine ⟨Nat.le_of_ble_eq_true rfl, ltr_asc fun d hd => ?_⟩
      have e : d = c := by simpa using hd
      rw [e]
      exact vr_ltr hc
  have tolds : ∀ x : Str, x.length ≤ 8 → ∀ {k : Nat} {a b vs : List Nat} {t : Nat → List Nat}, St (termOf n1).cps.toList (termOf n2).cps.toList k a b vs t → ((x.cps.toList.map fun d => putF (fun k => getOf (rowsOf3 vs t) k k) ⟨#[d]⟩).map (·.length)).sum ≤ 16000000 := by
    intro x hx k a b vs t S
    refine Nat.le_trans (fl_le (B := 200000) (fun d => ?_) hx) (by decide)
    by_cases h : vr d
    · rw [putF_vr h]
      exact (gets S h).1
    · rw [putF_no h]
      exact Nat.le_of_ble_eq_true rfl
  refine ⟨mach3 _ _, ⟨[], fun d => [d], St.start a1 b1 a2 b2 a3 b3, rfl⟩, ways _ (by omega), ways _ (by omega), ?_, ?_, ?_, ?_, ?_, ?_⟩
  · intro hb i _ e
    rw [putOf_way, putOf_way, mk_inj] at e
    exact hb _ (way_gd i) e
  · rintro k b rows ⟨vs, t, S, rfl⟩
    exact tolds _ (by omega) S
  · rintro k b rows ⟨vs, t, S, rfl⟩
    exact tolds _ (by omega) S
  · rintro k b rows ⟨vs, t, S, rfl⟩
    rw [S.putT, S.putT, S.oa, S.ob]
  · rintro k b rows ⟨vs, t, S, rfl⟩ i c hc
    obtain ⟨h1, h2⟩ := gets S hc
    exact ⟨h1, h2, ways _ h1 i⟩
  · rintro k b rows ⟨vs, t, S, rfl⟩ i _
    rw [Bool.eq_iff_iff, beq_iff_eq, List.all_eq_true, putOf_way, putOf_way, mk_inj, S.sem _ (way_gd i)]
    have one : ∀ c, vr c → ((putOf (putF (wayOf i)) (getOf (rowsOf3 vs t) ⟨#[c]⟩ ⟨#[c]⟩) == wayOf i ⟨#[c]⟩) = true ↔ way i c = sub (way i) (t c)) := by
      intro c hc
      rw [beq_iff_eq, S.told hc, putOf_way]
      have : wayOf i ⟨#[c]⟩ = ⟨(way i c).toArray⟩ := by
        unfold way
        rw [putF_vr hc]
      rw [this, mk_inj]
      exact eq_comm
    constructor
    · rintro ⟨_, h⟩ c hc
      have hv : vr c := by simpa [vr] using hc
      refine (one c hv).mpr ?_
      by_cases q : c ∈ vs
      · exact h c q
      · rw [S.t0 c q, sub_one]
    · intro h
      refine ⟨rfl, fun v hv => (one v (S.vv v hv)).mp (h v ?_)⟩
      have := S.vv v hv
      simpa [vr] using this
end Mine
end
section
open PySem PySem.W PyProof.Rows
set_option Elab.async false
set_option maxRecDepth 100000
set_option maxHeartbeats 8000000
set_option pp.deepTerms true
set_option pp.proofs false
namespace Mine
local macro_rules | `(tactic| walk_at "none at all") => `(tactic| fail)
local macro_rules | `(tactic| walk_at "none at all") => `(tactic| fail)
local macro_rules | `(tactic| walk_at "none at all") => `(tactic| fail)
local macro_rules | `(tactic| walk_at "none at all") => `(tactic| fail)
local macro_rules | `(tactic| walk_at "none at all") => `(tactic| fail)
local macro_rules | `(tactic| walk_at "none at all") => `(tactic| fail)
local macro_rules | `(tactic| walk_at "none at all") => `(tactic| fail)
local macro_rules | `(tactic| walk_at "none at all") => `(tactic| fail)
local macro_rules | `(tactic| walk_at "none at all") => `(tactic| fail)
local macro_rules | `(tactic| walk_at "none at all") => `(tactic| fail)
local macro_rules | `(tactic| walk_at "none at all") => `(tactic| fail)
local macro_rules | `(tactic| walk_at "none at all") => `(tactic| fail)
local macro_rules | `(tactic| walk_at "none at all") => `(tactic| fail)
local macro_rules | `(tactic| walk_at "none at all") => `(tactic| fail)
local macro_rules | `(tactic| walk_at "eval ListComp") => `(tactic| (k_here; k_dflt (refine ListComp_Z (F₀ := by k_asm) (by with_unfolding_all rfl) (by decide) (by rfl) (by decide) (by rfl) (by rfl) (by decide) ?_)))
local macro_rules | `(tactic| walk_at "call type:zip") => `(tactic| (k_here; refine Hold.out ?_))
local macro_rules | `(tactic| walk_at "call ref") => `(tactic| (k_here; (with_reducible show wpAny _ _ (call (Value.ref 194) _ _) _ _ _); k_dflt (refine' term _ _ (Int.fmod_nonneg_of_pos _ (by decide)) (Int.fmod_lt_of_pos _ (by decide)) _ _ _ _ _ _ _ _ _ _ _ _ _ _ _ _ _ ?B ?F ?X ?T ?kK ?kd ?ku trivial ?_; (case B => k_asm); (case F => k_asm); (case X => k_asm); (case T => k_asm); (case kK => first | exact rfl | assumption); (case kd => ktr_room); (case ku => ktr_units); k_whole); (with_reducible rename News _ _ _ _ => N9'); intro t9 h9 tk9 F9 k9; (replace N9' := news_kept N9' k9); clear k9; (try dsimp only); (try k_fold)))
local macro_rules | `(tactic| walk_at "execs cons") => `(tactic| (k_here; (with_reducible show wpAny _ _ (execs (Stmt.Assign [PySem.Expr.Name _ _] (PySem.Expr.Call (PySem.Expr.Name _ _) [PySem.Expr.Name _ _, PySem.Expr.Name _ _] [] _) _ :: _) _) _ _ _); refine Hold.out ?_))
theorem off1 {D : Addr} {l : List (Addr × Obj)} (h : ∀ p ∈ l, p.1 ≠ D) : LCg.Off1 D l := by
  induction l with
  | nil => exact trivial
  | cons p r ih => exact ⟨h p (.head _), ih fun q hq => h q (.tail _ hq)⟩
theorem two_strs {ys : List Value} {x y : Str} (h : StrsAre ys [x, y]) : ∃ t u, ys = [.str x t, .str y u] := by
  cases h with
  | cons _ t h =>
    cases h with
    | cons _ u h =>
      cases h
      exact ⟨t, u, rfl⟩
def scr (l : List Int) : List Int := l.take 2 ++ [0, 0]
def wordsOf (l : List Int) : List Str := [termOf (Int.fmod (470 + (scr l).getD 0 0) 2500), termOf (Int.fmod (261 + (scr l).getD 1 0) 2500)]
theorem intsGet {vs : List Value} {ns : List Int} (h : IntsAre vs ns) {i : Nat} {v : Value} (e : vs[i]? = some v) : ∃ k t, v = .int k t ∧ ns[i]? = some k := by
  induction h generalizing i with
  | nil => simp at e
  | cons n t _ ih =>
    cases i with
    | zero =>
      simp at e
      exact ⟨n, t, e.symm, rfl⟩
    | succ i => exact ih (by simpa using e)
theorem pick6 {h₀ h : Heap} {L : Addr} {a b c d e f : Addr × Obj} {r : List (Addr × Obj)} (N : News h₀ L h (a :: b :: c :: d :: e :: f :: r)) : News h₀ L h r := fun p hp => N p (.tail _ (.tail _ (.tail _ (.tail _ (.tail _ (.tail _ hp))))))
theorem law03 : PySem.Challenge.rw_pg0249_03.Holds := Mine.hd3 (by
  have hold0 : Unit := ()
  k_go0
  (all_goals try k_fold)
  (with_reducible rename IntsAre _ _ => hI0)
  (with_reducible rename List Int => scr0)
  k_steps
  refine Hold.mk ?_
  (with_reducible rename IntsAre _ (_ ++ _) => hI2)
  have hI3 : IntsAre _ (scr scr0) := hI2
  have hl3 := hI3.length
  refine SrcZ.call (n := 2) (J := fun i ys => StrsAre ys ((wordsOf scr0).take i)) (by rfl) (by k_asm) (by k_asm) (by k_mem) (by k_mem) (by decide) ?_ .nil ?_ ?_
  · rw [hl3]
    simp [scr]
  · intro z TI TO i1 i2 i ys' v₁ v₂ g e1 e2 j hyl oz oTI oTO o1 o2 C oC D m₂ h tk E' hC hx hx2 F N
    obtain ⟨a, ta, rfl, ha⟩ : ∃ a ta, v₂ = Value.int a ta ∧ (scr scr0)[i]? = some a := by
      refine intsGet ?_ e2
      assumption
    have ea : a = (scr scr0).getD i 0 := by simp [List.getD, ha]
    subst ea
    refine wpAny_tests_nil ?_
    rw [if_pos rfl]
    rcases i with _ | _ | i
    · simp only [List.getElem?_cons_zero, Option.some.injEq] at e1
      subst e1
      k_steps
      (with_reducible rename News _ _ _ _ => N9)
      exact TurnEnd.intro (by k_asm) N9 (fun _ hp => hp) (strs_snoc j _ _)
    · simp only [List.getElem?_cons_zero, List.getElem?_cons_succ, Option.some.injEq] at e1
      subst e1
      k_steps
      (with_reducible rename News _ _ _ _ => N9)
      exact TurnEnd.intro (by k_asm) N9 (fun _ hp => hp) (strs_snoc j _ _)
    · simp at e1
  · intro D ys' h tk j F N off
    obtain ⟨t1, t2, rfl⟩ := two_strs j
    replace off := off1 off
    simp only [LCg.Off1, and_true] at off
    k_steps
    refine Hold.mk ?_
    (with_reducible rename Fr _ _ _ _ => F9)
    (with_reducible rename News _ _ _ _ => N9)
    have N8 := pick6 N9
    clear N9
    with_unfolding_all refine' tail1 _ _ _ _ _ t1 t2 (law3Ok (Int.fmod (470 + (scr scr0).getD 0 0) 2500) (Int.fmod (261 + (scr scr0).getD 1 0) 2500)) _ _ _ _ _ _ _ _ _ _ _ _ _ ?kE ?kB F9 ?kX ?kT N8 ?k1 ?k2 ?k3 ?k4 ?k5 ?k6 ?kret
    case kE => first | assumption | passes_own
    case kB => k_asm
    case kX => k_asm
    case kT => k_asm
    case k1 => first | exact ⟨_, by assumption⟩ | (((repeat ((with_reducible rename _ ∧ _ => hh9); obtain ⟨_, _⟩ := hh9)); exact ⟨_, by assumption⟩))
    case k2 => first | exact ⟨_, by assumption⟩ | (((repeat ((with_reducible rename _ ∧ _ => hh9); obtain ⟨_, _⟩ := hh9)); exact ⟨_, by assumption⟩))
    case k3 => first | exact ⟨_, by assumption⟩ | (((repeat ((with_reducible rename _ ∧ _ => hh9); obtain ⟨_, _⟩ := hh9)); exact ⟨_, by assumption⟩))
    case k4 => first | exact ⟨_, by assumption⟩ | (((repeat ((with_reducible rename _ ∧ _ => hh9); obtain ⟨_, _⟩ := hh9)); exact ⟨_, by assumption⟩))
    case k5 => exact (if_neg (by decide)).trans (if_pos rfl)
    case k6 => exact if_pos rfl
    case kret =>
      intro h9 tk9 m9 F9'
      k_steps)
end Mine
end
theorem PySem.Challenge.cw_pg0249_03_holds : PySem.Challenge.rw_pg0249_03.Holds := by
  exact Mine.law03
