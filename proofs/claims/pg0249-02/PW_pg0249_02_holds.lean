import PyProof.Rows.All
import Wide.All
import OpenK.AllK
import Wide.FinOn
import PySem.Challenge.RW_pg0249_02
set_option Elab.async false
section
open PySem PySem.W PyProof.Rows
set_option Elab.async false
set_option maxRecDepth 100000
set_option maxHeartbeats 8000000
namespace Mine
open_top hd2 for PySem.Challenge.rw_pg0249_02
end Mine
end
theorem Mine.topOff : True := by
  w_top off
  trivial
section
open PySem PySem.W PyProof.Rows PyProof.V PySem.Calls
set_option Elab.async false
set_option maxRecDepth 100000
namespace Mine
section
open Builtin Builtin.Str
/-- str.find with both bounds -/
def F4 (x y : Str) (lo hi : Nat) : Int := match occurrences x y lo hi 1 with | k :: _ => (k : Int) | [] => -1
theorem gives_find4 (x y : Str) (i j : Int) (t u v v' : Tok) : Gives («str.find» ⟨[.str x t, .str y u, .int i v, .int j v'], []⟩) (.int (F4 x y (fromIndex x.length i) (min (fromIndex x.length j) x.length))) := by
  show Gives (match occurrences x y (fromIndex x.length i) (min (fromIndex x.length j) x.length) 1 with | k :: _ => retInt k | [] => (do rule "str.find.not-found"; retInt (-1))) _
  unfold F4
  cases occurrences x y (fromIndex x.length i) (min (fromIndex x.length j) x.length) 1 with
  | nil => exact .rule (.of_eq rfl)
  | cons k _ => exact .of_eq rfl
theorem find4 {prog : Program} {w : World} {A : Around} {E : Value → Shared → Prop} {s : Shared} {Q : Value → Shared → Prop} {x y : Str} {i j : Int} {t u v v' : Tok} (hi : 0 ≤ i) (hj : 0 ≤ j) (hjx : j ≤ x.length)
    (hq : Q (.int (F4 x y i.toNat j.toNat) s.toks) { s with toks := s.toks + 1 }) : wpAny (model prog w) A (call (.builtin "str.find") [.str x t, .str y u, .int i v, .int j v']) Q E s := by
  refine call_gives F.slot_str_find (typeIs_str _ _ _) F.entry_str_find (F.args_str_find_4 _ _ _ _) (gives_find4 x y i j t u v v') ?_
  have e1 : fromIndex x.length i = i.toNat := by unfold fromIndex; rw [if_neg (by omega)]; omega
  have e2 : min (fromIndex x.length j) x.length = j.toNat := by unfold fromIndex; rw [if_neg (by omega)]; omega
  rw [e1, e2]
  exact hq
theorem F4_ge (x y : Str) (lo hi : Nat) : -1 ≤ F4 x y lo hi := by
  unfold F4
  split <;> omega
def occGo (s sub : Str) (hi limit : Nat) : List Nat → Nat → Nat → List Nat
  | [], _, _ => []
  | i :: r, free, k => if k < limit ∧ free ≤ i ∧ i + sub.length ≤ hi ∧ subAt s sub i = true then i :: occGo s sub hi limit r (i + sub.length) (k + 1) else occGo s sub hi limit r free k
theorem occGo_eq (s sub : Str) (hi limit : Nat) : ∀ (l : List Nat) (st : Array Nat × Nat), (forIn (m := Id) l st (StrLaws.occBody s sub hi limit)).run.fst.toList = st.fst.toList ++ occGo s sub hi limit l st.snd st.fst.size := by
  intro l
  induction l with
  | nil => intro st; simp [occGo]
  | cons i r ih =>
    intro st
    simp only [List.forIn_cons, StrLaws.occBody, occGo]
    by_cases h : ((st.fst.size < limit ∧ st.snd ≤ i) ∧ i + sub.length ≤ hi) ∧ subAt s sub i = true
    · rw [if_pos (by simpa [and_assoc] using h), if_pos (by simpa [and_assoc] using h)]
      have := ih (st.fst.push i, i + sub.length)
      simp only [Array.toList_push, Array.size_push, List.append_assoc, List.cons_append, List.nil_append] at this
      exact this
    · rw [if_neg (by simpa [and_assoc] using h), if_neg (by simpa [and_assoc] using h)]
      exact ih st
theorem occ_go (s sub : Str) (lo hi limit : Nat) : occurrences s sub lo hi limit = occGo s sub hi limit (List.range' lo (hi + 1 - lo)) lo 0 := by
  rw [StrLaws.occ_eq, occGo_eq]
  simp
theorem F4_nil (x : Str) (lo hi : Nat) (h : lo ≤ hi) : F4 x (Str.ofString "") lo hi = lo := by
  unfold F4
  rw [occ_go]
  have e : hi + 1 - lo = (hi - lo) + 1 := by omega
  rw [e, List.range'_succ]
  have : subAt x (Str.ofString "") lo = true := by
    rw [StrLaws.subAt_eq]
    simp [Str.ofString, Str.length]
    rfl
  simp only [occGo]
  rw [if_pos ⟨by omega, Nat.le_refl _, by have : (Str.ofString "").length = 0 := by decide
                                          omega, this⟩]
end
section
/-- the heap behind a tree of looks and one new object (the library's peekA): all that stood before it stands -/
theorem peekA_keeps {α : Type} {K : Frag} {M : Model} {A : Around} {E : Value → Shared → Prop} {Q : α → Shared → Prop} {s : Shared} {o : Obj} (X : K.In s.heap) :
    ∀ (t : Sem α) (g : Addr → Sem α), peekA K ⟨M.prog, M.w.params⟩ t = some (o, g) → wpAny M A (g s.heap.objs.size) Q E { s with heap := s.heap.push o } → wpAny M A t Q E s
  | .rule _ k, g, e, q => fun Γ p hΓ => peekA_keeps X (k ()) g e q Γ p hΓ
  | .point _ k, g, e, q => fun Γ p hΓ => peekA_keeps X (k ()) g e q Γ p hΓ
  | .ask k, g, e, q => fun Γ p hΓ => peekA_keeps X (k _) g e q Γ p hΓ
  | .load a _ k, g, e, q => fun Γ p hΓ => by
    cases ho : K.lookup a with
    | none => simp [peekA, ho] at e
    | some ob => exact ⟨ob, X _ _ ho, peekA_keeps X (k ob) g (by simpa [peekA, ho] using e) q Γ p hΓ⟩
  | .alloc ob k, g, e, q => by
    have e' : ob = o ∧ k = g := by simpa [peekA] using e
    obtain ⟨rfl, rfl⟩ := e'
    show wpAny M A (alloc ob >>= k) Q E s
    exact wpAny_bind (wpAny_alloc q)
  | .pure _, g, e, _ | .raise _, g, e, _ | .unsupported _, g, e, _ | .finish _, g, e, _ | .at _ _, g, e, _ | .update _ _ _ _, g, e, _ | .loadIfAlive _ _, g, e, _ | .register _ _, g, e, _ | .fresh _, g, e, _ | .choose _ _ _, g, e, _ | .os _ _ _, g, e, _
  | .call _ _ _ _ _, g, e, _ | .handled _ _, g, e, _ | .newGen _ _, g, e, _ | .genState _ _, g, e, _ | .resume _ _ _ _, g, e, _ | .yield _ _ _ _, g, e, _ | .stack _, g, e, _ | .fork _ _, g, e, _ | .thread _, g, e, _ | .await _ _ _ _ _, g, e, _ => by simp [peekA] at e
variable {prog : Program} {w : World} {A A₀ : Around} {s : Shared} {K : Frag} {L : Addr} {h₀ base : Heap} {m mg mb : Str → Option Value} {news : List (Addr × Obj)} {p : Program} {loose : List Str} {mean : ExcName → Option Value}
/-- what a def's body is asked, its frame laid at L' over the ground g -/
abbrev Body (prog : Program) (w : World) (A : Around) (K : Frag) (p : Program) (loose : List Str) (mean : ExcName → Option Value) (mg mb : Str → Option Value) (h₀ base : Heap) (outer : List Env) (env : Env) (L : Addr) (m : Str → Option Value) (h : Heap) (news led : List (Addr × Obj)) (R : Result → Shared → Prop) (s : Shared) (body : List Stmt) (e : Addr → Env) (binds : List (Str × Value)) : Prop :=
  ∀ g L' h₁ tk, (∀ b o, h.get? b = some o → b ∉ news.map (·.1) → g.get? b = some o) → (∀ p ∈ led, p.1 < L') → Fr h₀ L g m → Fr g L' h₁ (fun y => binds.reverse.lookup y) → News g L' h₁ led → Below A base (env :: outer) g → K.In g → Top p loose mean mg mb g →
      wpAny (model prog w) (A.deeper (e L')) (execs body (e L'))
        (fun fl s' => LeaveK h₀ L m g R (match fl with | .ret v => v | _ => .none) s')
        (fun x s' => wpAny (model prog w) (A.deeper (e L')) (leaving (e L') x) (fun _ s'' => R (.error x) s'') (fun e' s'' => R (.error e') s'') s')
        { s with heap := h₁, toks := tk }
theorem frame_sub {env : Env} {outer : List Env} {R : Result → Shared → Prop} {E : Value → Shared → Prop} {qual : Str} {body : List Stmt} {scope : Scope} {cdv : Value} {f : Addr} {binds : List (Str × Value)}
    (B : Below A₀ base outer h₀) (F : Fr h₀ L s.heap m) (X₀ : K.In h₀) (N : News h₀ L s.heap news) (T : Top p loose mean mg mb h₀) (hA : A.frames = some (env :: outer)) (hf : env.frame = some L) (hke : env.scope.kind = .function)
    (hloc : ∀ y ∈ binds, scope.names.lookup y.1 = some .local) (h : Body prog w A K p loose mean mg mb h₀ base outer env L m s.heap news news R s body (fun L' => envOf qual scope L' f cdv) binds)
    (hk : scope.kind = .function) (hcell : ∀ x ∈ scope.names, x.2 ≠ .cell) :
    wpAny (model prog w) A.in1 (newFunctionEnv scope mainGlobals [] binds (qual ++ ".<locals>.") (some f) cdv none builtinsNs) (fun env' s₂ => s₂.heap.NoLimit ∧ codeAny (model prog w) A (.func body env') R s₂) E s := by
  obtain ⟨FG, BG, st, lv⟩ := groundX (R := R) B F N hA hf hke
  have kn : ∀ b o, h₀.get? b = some o → (hideAll s.heap (news.map (·.1))).get? b = some o := fun b o e => st b o e
  refine wpAny_newFunctionEnv hcell hloc (fun h₁ hns hsb => ⟨(T.nolimit.keeps F.keep).fresh _ hsb, codeAny_func ?_⟩) hk
  have ext : ∀ b o, s.heap.get? b = some o → h₁.get? b = some o := fun b o e => hsb.extBut b o (Nat.ne_of_lt (Heap.lt_size e)) (Heap.get?_push_of_some _ e)
  refine wpAny_mono (h (hideAll s.heap (news.map (·.1))) s.heap.objs.size h₁ _ (fun b o e n => hideAll_get _ e n) (fun p hp => Heap.lt_size (N p hp).1) FG ⟨hns, fun b o e => ext b o (of_hideAll _ e), Nat.le_of_eq (hideAll_size _ _)⟩ ?_ BG (X₀.keeps kn) (T.keeps kn)) (fun fl s' hl => lv _ _ hl) fun _ _ y => y
  exact fun p hp => ⟨ext _ _ (N p hp).1, Nat.ne_of_lt (Heap.lt_size (N p hp).1), hideAll_none _ (List.mem_map_of_mem hp)⟩
/-- a def with plain parameters -/
theorem code_sub {env : Env} {outer : List Env} {R : Result → Shared → Prop} {name qual : Str} {params : Arguments} {body : List Stmt} {scope : Scope} {dV kV doc pm cdv ct oc : Value} {an od : Option Addr} {osl : Array (Option Value)} {f : Addr} {args : Args} {binds : List (Str × Value)}
    (B : Below A₀ base outer h₀) (F : Fr h₀ L s.heap m) (X₀ : K.In h₀) (N : News h₀ L s.heap news) (T : Top p loose mean mg mb h₀) (hA : A.frames = some (env :: outer)) (hf : env.frame = some L) (hke : env.scope.kind = .function)
    (ho : K.lookup f = some ⟨oc, od, .func (fnOf name qual params body scope dV kV doc pm an cdv ct), osl⟩) (hcd : codeIn K cdv qual = true) (hroom : A.depth < recursionLimit)
    (hbind : BindsTo s (fnOf name qual params body scope dV kV doc pm an cdv ct) args binds) (hloc : ∀ y ∈ binds, scope.names.lookup y.1 = some .local)
    (h : Body prog w A K p loose mean mg mb h₀ base outer env L m s.heap news news R s body (fun L' => envOf qual scope L' f cdv) binds)
    (hco : scope.isCoroutine = false) (hgen : scope.isGenerator = false) (hk : scope.kind = .function)
    (hcell : ∀ x ∈ scope.names, x.2 ≠ .cell) : codeAny (model prog w) A (.call (.ref f) args) R s := by
  refine codeAny_call_function (fd := fnOf name qual params body scope dV kV doc pm an cdv ct) (body := body) hroom ((X₀.keeps F.keep) _ _ ho) rfl hco hgen rfl (codeRec_of (X₀.keeps F.keep) hcd) (hbind _ _ _ _ ?_)
  exact frame_sub B F X₀ N T hA hf hke hloc h hk hcell
/-- a def some of whose names are cells -/
theorem code_subC {env : Env} {outer : List Env} {R : Result → Shared → Prop} {name qual : Str} {params : Arguments} {body : List Stmt} {scope : Scope} {dV kV doc pm cdv ct oc : Value} {an od : Option Addr} {osl : Array (Option Value)} {f : Addr} {args : Args} {binds : List (Str × Value)}
    (B : Below A₀ base outer h₀) (F : Fr h₀ L s.heap m) (X₀ : K.In h₀) (N : News h₀ L s.heap news) (T : Top p loose mean mg mb h₀) (hA : A.frames = some (env :: outer)) (hf : env.frame = some L) (hke : env.scope.kind = .function)
    (ho : K.lookup f = some ⟨oc, od, .func (fnOf name qual params body scope dV kV doc pm an cdv ct), osl⟩) (hcd : codeIn K cdv qual = true) (hroom : A.depth < recursionLimit)
    (hbind : BindsTo s (fnOf name qual params body scope dV kV doc pm an cdv ct) args binds) (hkind : (binds.all fun y => scope.names.lookup y.1 == some .local || scope.names.lookup y.1 == some .cell) = true)
    (hnd : ((cellsFrom 0 scope.names []).map (·.1)).Nodup)
    (h : ∀ g L' h₁ tk cells, (∀ b o, s.heap.get? b = some o → b ∉ news.map (·.1) → g.get? b = some o) → (∀ p ∈ news, p.1 < L') → Fr h₀ L g m → Fr g L' h₁ (bindL (envOfC qual scope L' f cdv).kindOf binds fun _ => none) → News g L' h₁ (cells ++ news) →
      CellsAre (bindC (envOfC qual scope L' f cdv).kindOf binds fun _ => none) (cellsFrom (L' + 1) scope.names []) cells → Below A base (env :: outer) g → K.In g → Top p loose mean mg mb g →
      wpAny (model prog w) (A.deeper (envOfC qual scope L' f cdv)) (execs body (envOfC qual scope L' f cdv))
        (fun fl s' => LeaveK h₀ L m g R (match fl with | .ret v => v | _ => .none) s')
        (fun e s' => wpAny (model prog w) (A.deeper (envOfC qual scope L' f cdv)) (leaving (envOfC qual scope L' f cdv) e) (fun _ s'' => R (.error e) s'') (fun e' s'' => R (.error e') s'') s')
        { s with heap := h₁, toks := tk })
    (hco : scope.isCoroutine = false) (hgen : scope.isGenerator = false) (hk : scope.kind = .function) : codeAny (model prog w) A (.call (.ref f) args) R s := by
  obtain ⟨FG, BG, st, lv⟩ := groundX (R := R) B F N hA hf hke
  have kn : ∀ b o, h₀.get? b = some o → (hideAll s.heap (news.map (·.1))).get? b = some o := fun b o e => st b o e
  refine codeAny_call_function (fd := fnOf name qual params body scope dV kV doc pm an cdv ct) (body := body) hroom ((X₀.keeps F.keep) _ _ ho) rfl hco hgen rfl (codeRec_of (X₀.keeps F.keep) hcd) (hbind _ _ _ _ ?_)
  refine wpAny_newFunctionEnv_cells hk (kindsX hkind _) fun env' he s' x => ?_
  subst he
  have ext := x.toInCall.keep
  refine ⟨(T.nolimit.keeps F.keep).keeps ext, codeAny_func ?_⟩
  obtain ⟨h₁, tk, rfl, _⟩ := x.done
  obtain ⟨cells, NC, Y⟩ := Cl.news (h₀ := s.heap) (Nat.le_refl _) fun n c hm => ⟨x.cell n c (lookup_of_mem_nodup (cellsFrom_names scope.names 0 (s.heap.objs.size + 1) [] [] rfl ▸ hnd) hm), x.above n c hm⟩
  refine wpAny_mono (h (hideAll s.heap (news.map (·.1))) s.heap.objs.size h₁ tk cells (fun b o e n => hideAll_get _ e n) (fun p hp => Heap.lt_size (N p hp).1) FG ⟨x.toInCall.ns, fun b o e => ext b o (of_hideAll _ e), Nat.le_of_eq (hideAll_size _ _)⟩ (fun q hq => ?_) Y BG (X₀.keeps kn) (T.keeps kn)) (fun fl s' hl => lv _ _ hl) fun _ _ y => y
  rcases List.mem_append.mp hq with hq | hq
  · have hn : (hideAll s.heap (news.map (·.1))).get? q.1 = none := by
      cases e : (hideAll s.heap (news.map (·.1))).get? q.1 with
      | none => rfl
      | some o => have z := of_hideAll _ e; rw [(NC q hq).2.2] at z; cases z
    exact ⟨(NC q hq).1, (NC q hq).2.1, hn⟩
  · exact ⟨ext _ _ (N q hq).1, Nat.ne_of_lt (Heap.lt_size (N q hq).1), hideAll_none _ (List.mem_map_of_mem hq)⟩
/-- a def with a star parameter -/
theorem code_rest {env : Env} {outer : List Env} {R : Result → Shared → Prop} {name qual : Str} {params : Arguments} {body : List Stmt} {scope : Scope} {dV kV doc pm cdv ct oc : Value} {an od : Option Addr} {osl : Array (Option Value)} {f : Addr} {args : Args} {vs : List Value} {binds : Addr → List (Str × Value)}
    (B : Below A₀ base outer h₀) (F : Fr h₀ L s.heap m) (X₀ : K.In h₀) (N : News h₀ L s.heap news) (T : Top p loose mean mg mb h₀) (hA : A.frames = some (env :: outer)) (hf : env.frame = some L) (hke : env.scope.kind = .function)
    (ho : K.lookup f = some ⟨oc, od, .func (fnOf name qual params body scope dV kV doc pm an cdv ct), osl⟩) (hcd : codeIn K cdv qual = true) (hroom : A.depth < recursionLimit)
    (hp : peekA K ⟨prog, w.params⟩ (bindArgs (fnOf name qual params body scope dV kV doc pm an cdv ct) args) = some (({ cls := .type "tuple", data := .seq vs.toArray } : Obj), fun D => pure (binds D)))
    (hloc : ∀ D, ∀ y ∈ binds D, scope.names.lookup y.1 = some .local)
    (h : ∀ D, (∀ p ∈ news, p.1 < D) → (∀ b o, s.heap.get? b = some o → b ≠ D) → Body prog w A K p loose mean mg mb h₀ base outer env L m s.heap news ((D, ({ cls := .type "tuple", data := .seq vs.toArray } : Obj)) :: news) R s body (fun L' => envOf qual scope L' f cdv) (binds D))
    (hco : scope.isCoroutine = false) (hgen : scope.isGenerator = false) (hk : scope.kind = .function)
    (hcell : ∀ x ∈ scope.names, x.2 ≠ .cell) : codeAny (model prog w) A (.call (.ref f) args) R s := by
  refine codeAny_call_function (fd := fnOf name qual params body scope dV kV doc pm an cdv ct) (body := body) hroom ((X₀.keeps F.keep) _ _ ho) rfl hco hgen rfl (codeRec_of (X₀.keeps F.keep) hcd) ?_
  refine peekA_keeps (M := model prog w) (X₀.keeps F.keep) _ _ hp (wpAny_pure ?_)
  refine frame_sub (s := { s with heap := s.heap.push _ }) B (F.push _) X₀ (News.push F N _) T hA hf hke (hloc _) (fun g L' h₁ tk a1 a2 a3 a4 a5 a6 a7 a8 => ?_) hk hcell
  refine h s.heap.objs.size (fun p hp => Heap.lt_size (N p hp).1) (fun b o e => Nat.ne_of_lt (Heap.lt_size e)) g L' h₁ tk (fun b o e n => a1 b o (Heap.get?_push_of_some _ e) ?_) a2 a3 a4 a5 a6 a7 a8
  rw [List.map_cons, List.mem_cons]
  rintro (q | q)
  · have := Heap.lt_size e
    exact absurd q (Nat.ne_of_lt this)
  · exact n q
/-- a def with a double star parameter, no such argument given -/
theorem code_more0 {env : Env} {outer : List Env} {R : Result → Shared → Prop} {name qual : Str} {params : Arguments} {body : List Stmt} {scope : Scope} {dV kV doc pm cdv ct oc : Value} {an od : Option Addr} {osl : Array (Option Value)} {f : Addr} {args : Args} {binds : Addr → List (Str × Value)}
    (B : Below A₀ base outer h₀) (F : Fr h₀ L s.heap m) (X₀ : K.In h₀) (N : News h₀ L s.heap news) (T : Top p loose mean mg mb h₀) (hA : A.frames = some (env :: outer)) (hf : env.frame = some L) (hke : env.scope.kind = .function)
    (ho : K.lookup f = some ⟨oc, od, .func (fnOf name qual params body scope dV kV doc pm an cdv ct), osl⟩) (hcd : codeIn K cdv qual = true) (hroom : A.depth < recursionLimit)
    (hp : peekA K ⟨prog, w.params⟩ (bindArgs (fnOf name qual params body scope dV kV doc pm an cdv ct) args) = some (dictOf [] 0, fun D => pure (binds D)))
    (hloc : ∀ D, ∀ y ∈ binds D, scope.names.lookup y.1 = some .local)
    (h : ∀ D o, (∀ p ∈ news, p.1 < D) → (∀ b o, s.heap.get? b = some o → b ≠ D) → (D == sysModules) = false → o.IsDictOf (strKind prog w) [] → FlatPairs PyData.str [] [] → Body prog w A K p loose mean mg mb h₀ base outer env L m s.heap news ((D, o) :: news) R s body (fun L' => envOf qual scope L' f cdv) (binds D))
    (hco : scope.isCoroutine = false) (hgen : scope.isGenerator = false) (hk : scope.kind = .function)
    (hcell : ∀ x ∈ scope.names, x.2 ≠ .cell) : codeAny (model prog w) A (.call (.ref f) args) R s := by
  refine codeAny_call_function (fd := fnOf name qual params body scope dV kV doc pm an cdv ct) (body := body) hroom ((X₀.keeps F.keep) _ _ ho) rfl hco hgen rfl (codeRec_of (X₀.keeps F.keep) hcd) ?_
  refine peekA_keeps (M := model prog w) (X₀.keeps F.keep) _ _ hp (wpAny_pure ?_)
  refine frame_sub (s := { s with heap := s.heap.push _ }) B (F.push _) X₀ (News.push F N _) T hA hf hke (hloc _) (fun g L' h₁ tk a1 a2 a3 a4 a5 a6 a7 a8 => ?_) hk hcell
  refine h s.heap.objs.size (dictOf [] 0) (fun p hp => Heap.lt_size (N p hp).1) (fun b o e => Nat.ne_of_lt (Heap.lt_size e)) (F.notModules (modules_low T.nolimit)) (kp_isDict (ex := []) 0 0 List.nodup_nil) .nil g L' h₁ tk (fun b o e n => a1 b o (Heap.get?_push_of_some _ e) ?_) a2 a3 a4 a5 a6 a7 a8
  rw [List.map_cons, List.mem_cons]
  rintro (q | q)
  · have := Heap.lt_size e
    exact absurd q (Nat.ne_of_lt this)
  · exact n q
end
/-- a call that keeps every object that stood before it and hands back one value -/
abbrev Pur (prog : Program) (w : World) (K : Frag) (p : Program) (loose : List Str) (mean : ExcName → Option Value) (mg mb : Str → Option Value) (D U : Nat) (f : Addr) (vs : List Value) (pre : Heap → Prop) (R : Tok → Value) : Prop :=
  ∀ (dp un : Nat) (gd : Option (List Code)) (cn : Str) (cs : Scope) (a : Addr) (ccd : Value) (cl : List (Str × Addr)) (outer : List Env) (A₀ : Around) (base h₀ : Heap) (L : Addr) (m : Str → Option Value) (s : Shared) (Q E : Value → Shared → Prop),
    Below A₀ base outer h₀ → Fr h₀ L s.heap m → K.In h₀ → Top p loose mean mg mb h₀ → cs.kind = .function → dp + D < recursionLimit → un + U < cLine → pre s.heap →
    (∀ (t : Tok) (h' : Heap) (tk' : Nat), Fr h₀ L h' m → (∀ b o, s.heap.get? b = some o → h'.get? b = some o) → Q (R t) { s with heap := h', toks := tk' }) →
    wpAny (model prog w) (ktrTop dp un gd cn cs L a ccd cl outer) (call (.ref f) vs) Q E s
abbrev PurK (prog : Program) (w : World) (K : Frag) (p : Program) (loose : List Str) (mean : ExcName → Option Value) (mg mb : Str → Option Value) (D U : Nat) (f : Addr) (vs : List Value) (kw : List (Str × Value)) (pre : Heap → Prop) (R : Tok → Value) : Prop :=
  ∀ (dp un : Nat) (gd : Option (List Code)) (cn : Str) (cs : Scope) (a : Addr) (ccd : Value) (cl : List (Str × Addr)) (outer : List Env) (A₀ : Around) (base h₀ : Heap) (L : Addr) (m : Str → Option Value) (s : Shared) (Q E : Value → Shared → Prop),
    Below A₀ base outer h₀ → Fr h₀ L s.heap m → K.In h₀ → Top p loose mean mg mb h₀ → cs.kind = .function → dp + D < recursionLimit → un + U < cLine → pre s.heap →
    (∀ (t : Tok) (h' : Heap) (tk' : Nat), Fr h₀ L h' m → (∀ b o, s.heap.get? b = some o → h'.get? b = some o) → Q (R t) { s with heap := h', toks := tk' }) →
    wpAny (model prog w) (ktrTop dp un gd cn cs L a ccd cl outer) (call (.ref f) vs kw) Q E s
theorem news_kept {h₀ h h' : Heap} {L : Addr} {news : List (Addr × Obj)} (N : News h₀ L h news) (k : ∀ b o, h.get? b = some o → h'.get? b = some o) : News h₀ L h' news := fun p hp => ⟨k _ _ (N p hp).1, (N p hp).2⟩
end Mine
namespace Mine
section
variable {prog : Program} {w : World} {A : Around} {E : Value → Shared → Prop} {s : Shared} {h₀ : Heap} {L : Addr} {m : Str → Option Value} {news : List (Addr × Obj)}
/-- t[a:] of a tuple of the ledger -/
theorem slice_tup {value slice : PySem.Expr} {l : Addr} {items : List Value} {n a : Nat} {u : Tok} {Q : Value → Shared → Prop}
    (F : Fr h₀ L s.heap m) (N : News h₀ L s.heap news) (hm : (l, ({ cls := .type "tuple", data := .seq items.toArray n } : Obj)) ∈ news) (h1 : 1 ≤ a) (ha : a ≤ items.length) (hz : items.length ≤ 1000)
    (h : ∀ D h', Fr h₀ L h' m → News h₀ L h' ((D, ({ cls := .type "tuple", data := .seq (items.drop a).toArray } : Obj)) :: news) → (∀ p ∈ news, p.1 < D) → Q (.ref D) { s with heap := h' })
    (hs : subscripted slice false (.ref l) (.ref s.heap.objs.size) = operate [.ref s.heap.objs.size, .ref l] (getItem (.ref l) (.ref s.heap.objs.size)))
    (ht : ∀ r, letTemporaryGo value (.ref l) r = pure ()) :
    wpAny (model prog w) A (subscriptTail value slice (.ref l) (.ref s.heap.objs.size)) Q E { s with heap := s.heap.push { cls := .type "slice", data := .fields #[.int a u, .none, .none] } } := by
  have k0 : ∀ b o, s.heap.get? b = some o → (s.heap.push { cls := .type "slice", data := .fields #[.int a u, .none, .none] }).get? b = some o := fun _ _ e => Heap.get?_push_of_some _ e
  have hT : IsTup (s.heap.push { cls := .type "slice", data := .fields #[.int a u, .none, .none] }) l items.toArray := ⟨_, k0 _ _ (N _ hm).1, rfl, n, rfl⟩
  refine subscriptTail_ops hT.typeIs slot_tuple_getitem.lookup (getItem_tuple_from hT (Heap.IsSliceOf.new ..) h1 (by simpa using ha) ?_ (by rw [sizeLine_eq]; simp; omega)) hs ht
  have N1 := News.push (F.push { cls := .type "slice", data := .fields #[.int a u, .none, .none] }) (news_kept N k0) { cls := .type "tuple", data := .seq (items.drop a).toArray }
  exact h _ _ ((F.push _).push _) (by simpa using N1) fun q hq => by
    show _ < (s.heap.push _).objs.size
    rw [Heap.size_push]
    exact Nat.lt_succ_of_lt (Heap.lt_size (N q hq).1)
end
end Mine

namespace Mine
theorem join_one (g v : Str) : Txt.join g [v] = v := by
  show (⟨_⟩ : Str) = v
  rfl
theorem keep_sub {h₀ h h' : Heap} {L b : Addr} {o : Obj} {sub sub' : List (Addr × Obj)} (N : News h₀ L h sub) (N' : News h₀ L h' sub') (hs : ∀ p ∈ sub, p.1 = b → p ∈ sub') (k0 : b ∉ sub.map (·.1) → h.get? b = some o → h'.get? b = some o) (e : h.get? b = some o) : h'.get? b = some o := by
  by_cases hb : b ∈ sub.map (·.1)
  · obtain ⟨p, hp, rfl⟩ := List.mem_map.mp hb
    have e1 := (N p hp).1
    rw [e1] at e
    cases e
    exact (N' p (hs p hp rfl)).1
  · exact k0 hb e
end Mine
namespace Mine
/-- a list's values are pairs of texts -/
inductive RowsAt (h : Heap) : List Value → List (Str × Str) → Prop
  | nil : RowsAt h [] []
  | cons {T : Addr} {k v : Str} {t u : Tok} {vs : List Value} {rows : List (Str × Str)} : IsTup h T #[.str k t, .str v u] → RowsAt h vs rows → RowsAt h (.ref T :: vs) ((k, v) :: rows)
theorem RowsAt.keeps {h h' : Heap} {vs : List Value} {rows : List (Str × Str)} (r : RowsAt h vs rows) (k : ∀ b o, h.get? b = some o → h'.get? b = some o) : RowsAt h' vs rows := by
  induction r with
  | nil => exact .nil
  | cons ht _ ih => exact .cons (ht.keeps k) ih
theorem RowsAt.get {h : Heap} {vs : List Value} {rows : List (Str × Str)} (r : RowsAt h vs rows) {i : Nat} {v : Value} (e : vs[i]? = some v) : ∃ T k x t u, v = .ref T ∧ rows[i]? = some (k, x) ∧ IsTup h T #[.str k t, .str x u] := by
  induction r generalizing i with
  | nil => simp at e
  | cons ht _ ih =>
    cases i with
    | zero =>
      simp at e
      subst e
      exact ⟨_, _, _, _, _, rfl, rfl, ht⟩
    | succ i => exact ih (by simpa using e)
theorem RowsAt.length {h : Heap} {vs : List Value} {rows : List (Str × Str)} (r : RowsAt h vs rows) : vs.length = rows.length := by
  induction r with
  | nil => rfl
  | cons _ _ ih => simp [ih]
theorem RowsAt.snoc {h : Heap} {vs : List Value} {rows : List (Str × Str)} {T : Addr} {k v : Str} {t u : Tok} (r : RowsAt h vs rows) (ht : IsTup h T #[.str k t, .str v u]) : RowsAt h (vs ++ [.ref T]) (rows ++ [(k, v)]) := by
  induction r with
  | nil => exact .cons ht .nil
  | cons ht _ ih => exact .cons ht ih
end Mine
namespace Mine
section
variable {prog : Program} {w : World} {A : Around} {E : Value → Shared → Prop} {s : Shared} {Q : Value → Shared → Prop}
theorem str_item {value slice : PySem.Expr} {x : Str} {t u : Tok} {i : Int} (h0 : 0 ≤ i) (h1 : i < x.length) (hx : x.length ≤ 1000) (h : Q (.str ⟨#[x.cps.getD i.toNat 0]⟩ s.toks) { s with toks := s.toks + 1 })
    (hs : subscripted slice false (.str x t) (.int i u) = operate [.str x t, .int i u] (getItem (.str x t) (.int i u))) (ht : ∀ r, letTemporaryGo value (.str x t) r = pure ()) :
    wpAny (model prog w) A (subscriptTail value slice (.str x t) (.int i u)) Q E s := by
  refine subscriptTail_ops (typeIs_str _ _ _) F.slot_str_getitem.lookup (SB.getItem (fitsSsize_of (N := 9223372036854775808) (by omega) (by omega) (Int.le_refl _)) (charAt_isSome (by omega) h1) ?_) hs ht
  have hl : i.toNat < x.cps.size := by
    have : (x.length : Int) = x.cps.size := rfl
    omega
  rw [item_meets h0 (n := x.cps.getD i.toNat 0) (by simp [Array.getD, hl])]
  exact h
end
end Mine
namespace Mine
section
variable {prog : Program} {w : World} {A : Around} {E : Value → Shared → Prop} {s : Shared} {h₀ : Heap} {L : Addr} {m : Str → Option Value} {news news' : List (Addr × Obj)}
/-- list += list, both of the ledger -/
theorem iadd_list {l b : Addr} {xs ys : List Value} {n n2 : Nat} {Q : Value → Shared → Prop} (F : Fr h₀ L s.heap m) (N : News h₀ L s.heap news) (U : Upd l (listOf xs.toArray n) (listOf (xs ++ ys).toArray (n + 1)) news news') (hb : (b, listOf ys.toArray n2) ∈ news)
    (hy : 1 ≤ ys.length) (hz : xs.length + ys.length ≤ 1000) (h : ∀ h', Fr h₀ L h' m → News h₀ L h' news' → Q (.ref l) { s with heap := h' }) : wpAny (model prog w) A (inplaceOp .Add (.ref l) (.ref b)) Q E s := by
  obtain ⟨pre, post, rfl, rfl, a, c⟩ := U.split
  have z := N (l, listOf xs.toArray n) (List.mem_append.mpr (.inr (.head _)))
  have zb := (N _ hb).1
  have hsz' : xs.toArray.size + ys.toArray.size ≤ sizeLine := by rw [sizeLine_eq]; simp; omega
  have hfi : fillsInplaceSlot (.type "list") "add" (Operator.Add == .Add) = pure false := by
    unfold fillsInplaceSlot
    show (typeLookup (.type "list") (dunderI "add") >>= fun fi => pure (fi.isSome && !isSeqSlot fi)) = pure false
    rw [PySem.F.slot_list_iadd.lookup]
    have e : isSeqSlot (some (.builtin "list.__iadd__")) = true := by decide +kernel
    show (pure (true && !isSeqSlot (some (.builtin "list.__iadd__"))) : Sem Bool) = pure false
    rw [e]
    rfl
  have hsi : seqSlot? (.type "list") (dunderI "add") = pure (some (.builtin "list.__iadd__")) := PySem.seqSlot_of PySem.F.slot_list_iadd.lookup (by decide +kernel)
  unfold inplaceOp
  refine wpAny_holding ?_
  refine wpAny_bind (wpAny_typeOf ⟨_, z.1, rfl⟩ (wpAny_bind (wpAny_of_eq hfi ?_)))
  show wpAny _ A (if false = true then _ else _) Q E s
  rw [if_neg Bool.false_ne_true]
  refine wpAny_bind (wpAny_binaryOp1_none (nm := "add") ⟨_, z.1, rfl⟩ ⟨_, zb, rfl⟩ noFill_list_add ?_)
  refine wpAny_bind (wpAny_of_eq hsi ?_)
  refine wpAny_bind (wpAny_rule ?_)
  refine call_meets PySem.F.slot_list_iadd ⟨_, z.1, rfl⟩ PySem.F.entry_list_iadd (PySem.F.args_list_iadd_2 _ _) (AutoSeq1.list___iadd___list_list_0 l xs.toArray n b ys.toArray n2 (extend_door hsz') (Nat.le_trans (Nat.le_add_right _ _) hsz')) ⟨z.1, zb, ?_⟩
  have e : xs.toArray ++ ys.toArray = (xs ++ ys).toArray := by simp
  have ho' : (s.heap.update l (Obj.mapSeq fun x => x ++ ys.toArray)).get? l = some (listOf (xs ++ ys).toArray (n + 1)) := by
    rw [Heap.get?_update_self _ z.1 (by rw [mapSeq_app]; rfl), mapSeq_app, e]
    have : ((xs ++ ys).toArray.size == xs.toArray.size) = false := by
      simp
      intro e
      rw [e] at hy
      exact absurd hy (by decide)
    rw [this]
    rfl
  exact h _ (F.change (Heap.SameBut.update ..) z.2.1 z.2.2) (news_set N a c (Heap.SameBut.update ..) ho')
end
end Mine
end
section
open PySem PySem.W PyProof.Rows
set_option Elab.async false
set_option maxRecDepth 100000
namespace Mine
open Builtin Builtin.Re PySem.Calls
theorem slot_pat_search : Slot "re.Pattern" "search" "re.Pattern.search" :=
  .of (owner := "re.Pattern") (n := "search") (by rw [typeLookup_type, builtinLookup_eq_fast]; kernel_rfl) (by decide +kernel) (by decide +kernel) (by decide +kernel)
    (by first | exact .inl (by decide +kernel) | exact .inr (by decide +kernel)) (by rw [isSubtype_type]; kernel_rfl)
theorem entry_pat_search : entryFor table "re.Pattern.search" = some Builtin.«re.Pattern.search» := entryFor_of_fast (by kernel_rfl)
theorem type_pat_search : typeOf (.builtin "re.Pattern.search") = pure (.type "method_descriptor") := by show builtinType _ = _; rw [builtinType_eq_fast]; kernel_rfl
theorem args_pat_search (a b : Value) : argsOk "re.Pattern.search" ⟨[a, b], []⟩ := by unfold argsOk; kernel_rfl
theorem plain_pat : PlainAttrs "re.Pattern" :=
  ⟨⟨"object.__getattribute__", by rw [typeLookup_type, builtinLookup_eq_fast]; kernel_rfl, by decide +kernel⟩, by rw [typeLookup_type, builtinLookup_eq_fast]; kernel_rfl⟩
theorem getMethod_pat {M : Model} {A : Around} {E : Value → Shared → Prop} {s : Shared} {a : Addr} {o : Obj} {pl : Sem Bool} {Q : Value × List Value → Shared → Prop} (ho : s.heap.get? a = some o) (hc : o.cls = .type "re.Pattern") (hd : o.dict = none)
    (h : Q (.builtin "re.Pattern.search", [.ref a]) s) : wpAny M A (getMethod (.ref a) (Str.ofString "search") pl) Q E s :=
  getMethod_builtin ⟨o, ho, hc⟩ plain_pat slot_pat_search type_pat_search (fun b e => by cases e; exact ⟨o, ho, hd⟩) h
/-! the engine: no sign of the text is of the set -/
def SetNo (code : Array Nat) (c : Nat) : Prop := ∀ seen, ∃ seen', Sre.inSet code c code.size 5 true seen = .ok (false, seen')
theorem admitted_none (m : Sre.M) (h : ∀ i, i < m.lim → SetNo m.code (m.text.getD i 0)) : ∀ fuel s seen, ∃ seen', Sre.M.admitted m fuel s seen = .ok (none, seen')
  | 0, _, seen => ⟨seen, rfl⟩
  | fuel + 1, s, seen => by
    unfold Sre.M.admitted
    by_cases hs : s ≥ m.lim
    · exact ⟨seen, by rw [if_pos hs]⟩
    · obtain ⟨s1, e⟩ := h s (by omega) seen
      obtain ⟨s2, e2⟩ := admitted_none m h fuel (s + 1) s1
      exact ⟨s2, by rw [if_neg hs, e]; exact e2⟩
theorem run_say (m : Sre.M) (ho : m.outcome = none) (ha : m.answer = some false) (hf : m.frames = []) : (m.runFor reTurnSteps).outcome = some .failed := by
  obtain ⟨code, text, lim, start, lastStart, wholeText, mustAdvance, pc, pos, handed, outermost, marks, lastmark, lastindex, loops, inner, frames, weight, answer, seen, outcome⟩ := m
  simp only at ho ha hf
  subst ho ha hf
  rfl
theorem attemptFrom_none (m : Sre.M) (hf : m.hasFirstSet = true) (h : ∀ i, i < m.lim → SetNo m.code (m.text.getD i 0)) (s : Nat) (f : Bool) (ho : m.outcome = none) (hfr : m.frames = []) :
    ((m.attemptFrom s f).runFor reTurnSteps).outcome = some .failed := by
  unfold Sre.M.attemptFrom
  obtain ⟨seen', e⟩ := admitted_none m h (m.lim + 1 - s) s m.seen
  rw [hf, e]
  exact run_say _ ho rfl hfr
def HasSet (code : Array Nat) : Bool := (match Sre.ops[code.getD 0 0]? with | some Sre.Op.INFO => true | _ => false) && code.getD 2 0 == 4
theorem search_none (code x : Array Nat) (g : Nat) (h1 : (Sre.header code).1 = 1) (hf : HasSet code = true) (h : ∀ i, i < x.size → SetNo code (x.getD i 0)) :
    ((Sre.forSearch code x g 0 x.size false).runFor reTurnSteps).outcome = some .failed := by
  unfold Sre.forSearch
  rw [h1]
  dsimp only
  split
  · exact run_say _ rfl rfl rfl
  · refine attemptFrom_none _ ?_ h _ _ rfl rfl
    exact hf
section
variable {M : Model} {A : Around} {E : Value → Shared → Prop} {s : Shared}
theorem drive_end (m : Sre.M) {o : Sre.Outcome} (h : (m.runFor reTurnSteps).outcome = some o) (n : Nat) : reDrive (n + 1) m = pure (m.runFor reTurnSteps) := by
  unfold reDrive
  simp [h]
theorem rules_done {Q : PUnit → Shared → Prop} (c : Nat → Bool) (n : Nat → String) (h : Q ⟨⟩ s) : ∀ l : List Nat, wpAny M A (forIn l PUnit.unit fun i _ => if c i = true then (do
        rule (n i)
        pure (ForInStep.yield PUnit.unit)) else pure (ForInStep.yield PUnit.unit)) Q E s
  | [] => by rw [List.forIn_nil]; exact wpAny_pure h
  | i :: r => by
    rw [List.forIn_cons]
    refine wpAny_bind ?_
    have last := rules_done c n h r
    cases hc : c i with
    | true => exact wpAny_bind (wpAny_rule (wpAny_pure last))
    | false => exact wpAny_pure last
theorem toEnd_none {m : Sre.M} {Q : Option Sre.M → Shared → Prop} (hm : (m.runFor reTurnSteps).outcome = some .failed) (h : Q none s) : wpAny M A (reRunToEnd m) Q E s := by
  unfold reRunToEnd
  have e : (2 ^ 64 : Nat) = (2 ^ 64 - 1) + 1 := by decide
  rw [e, drive_end m hm]
  refine wpAny_bind (wpAny_pure (wpAny_bind ?_))
  refine rules_done _ _ ?_ _
  rw [hm]
  exact wpAny_pure h
end
theorem target_tree (p : Value) (x : Str) (t : Tok) : reTarget "re.Pattern.search" "search" ⟨[p, .str x t], []⟩ = (do
  let fs ← fieldsOf p
  let want := reRawNat (fs.getD 6 .none)
  if (want == 0 && (0 : Nat) == 1) = true then raiseError "TypeError" "cannot use a string pattern on a bytes-like object"
  if (want == 1 && (0 : Nat) == 0) = true then raiseError "TypeError" "cannot use a bytes pattern on a string-like object"
  pure { pattern := p, string := .str x t, code := (← reRawItems (fs.getD 5 .none)).map (·.toNat), text := x.cps, kind := 0, groups := reRawNat (fs.getD 2 .none), pos := min (0 : Int).toNat x.cps.size, lim := min (2 ^ 63 - 1 : Int).toNat x.cps.size }) := rfl
theorem re_search {prog : Program} {w : World} {A : Around} {E : Value → Shared → Prop} {s : Shared} {Q : Value → Shared → Prop} {pat tup : Addr} {x : Str} {t : Tok} {op ot : Obj} {fs items : Array Value} {n : Nat} (code : Array Nat)
    (hp : s.heap.get? pat = some op) (hc : op.cls = .type "re.Pattern") (hd : op.data = .fields fs) (ht : s.heap.get? tup = some ot) (htd : ot.data = .seq items n)
    (h6 : reRawNat (fs.getD 6 .none) = 0) (h5 : fs.getD 5 .none = .ref tup)
    (hcode : (items.map reRawOf).map (·.toNat) = code) (h1 : (Sre.header code).1 = 1) (hf : HasSet code = true)
    (hx : x.length ≤ 1000000) (hn : ∀ i, i < x.cps.size → SetNo code (x.cps.getD i 0)) (h : Q .none s) :
    wpAny (model prog w) A (call (.builtin "re.Pattern.search") [.ref pat, .str x t]) Q E s := by
  refine wpAny_call_entry slot_pat_search ⟨op, hp, hc⟩ entry_pat_search ?_ (args_pat_search _ _)
  unfold Builtin.«re.Pattern.search»
  rw [target_tree]
  refine wpAny_bind (wpAny_bind (wpAny_fieldsOf hp hd ?_))
  dsimp only
  rw [h6, h5]
  simp only [Nat.reduceBEq, Bool.and_false, Bool.false_and, Bool.false_eq_true, if_false]
  refine wpAny_bind ?_
  unfold reRawItems
  refine wpAny_bind (wpAny_seqItems ht htd (wpAny_pure (wpAny_pure ?_)))
  have e0 : min (0 : Int).toNat x.cps.size = 0 := by simp
  have e1 : min (2 ^ 63 - 1 : Int).toNat x.cps.size = x.cps.size := by
    have : x.cps.size ≤ 1000000 := hx
    omega
  simp only [e0, e1, Option.getD_some, hcode]
  unfold reAnswer
  exact wpAny_bind (toEnd_none (search_none _ _ _ h1 hf hn) (wpAny_pure ⟨_, rfl, h⟩))
/-- the two sets of headers.py -/
def nameCode : Array Nat := #[14, 10, 4, 1, 1, 22, 0, 31, 16, 127, 0, 13, 7, 22, 0, 31, 16, 127, 0, 1]
def valueCode : Array Nat := #[14, 14, 4, 1, 1, 9, 4294966783, 0, 0, 2147483648, 0, 0, 0, 0, 0, 13, 11, 9, 4294966783, 0, 0, 2147483648, 0, 0, 0, 0, 0, 1]
theorem nameNo {c : Nat} (h1 : 32 ≤ c) (h2 : c < 127) : SetNo nameCode c := by
  intro seen
  refine ⟨((seen.add 22).add 16).add 0, ?_⟩
  show (if (decide (0 ≤ c) && decide (c ≤ 31)) = true then _ else _) = _
  rw [if_neg (by simp; omega)]
  show (if (c == 127) = true then _ else _) = _
  rw [if_neg (by simp; omega)]
  rfl
theorem valueNo {c : Nat} (h1 : 32 ≤ c) (h2 : c < 127) : SetNo valueCode c := by
  intro seen
  refine ⟨(seen.add 9).add 0, ?_⟩
  show (if (decide (c < 256) && (valueCode.getD (5 + (1 + c / 32)) 0).testBit (c % 32)) = true then _ else _) = _
  rw [if_neg (by rw [(by decide +kernel : ∀ c, c < 127 → 32 ≤ c → (decide (c < 256) && (valueCode.getD (5 + (1 + c / 32)) 0).testBit (c % 32)) = false) c h2 h1]; exact Bool.false_ne_true)]
  rfl
/-- a text of plain signs -/
def Plain (x : Str) : Prop := ∀ i, i < x.cps.size → 32 ≤ x.cps.getD i 0 ∧ x.cps.getD i 0 < 127
section
variable {prog : Program} {w : World} {A : Around} {E : Value → Shared → Prop} {s : Shared} {Q : Value → Shared → Prop} {pat tup : Addr} {x : Str} {t : Tok} {op ot : Obj} {fs items : Array Value} {n : Nat} {K : Frag}
theorem getMethod_patK {M : Model} {pl : Sem Bool} {Q : Value × List Value → Shared → Prop} (X : K.In s.heap) (ho : K.lookup pat = some op) (hc : op.cls = .type "re.Pattern") (hd : op.dict = none)
    (h : Q (.builtin "re.Pattern.search", [.ref pat]) s) : wpAny M A (getMethod (.ref pat) (Str.ofString "search") pl) Q E s := getMethod_pat (X _ _ ho) hc hd h
theorem re_name (X : K.In s.heap) (hp : K.lookup pat = some op) (hc : op.cls = .type "re.Pattern") (hd : op.data = .fields fs) (ht : K.lookup tup = some ot) (htd : ot.data = .seq items n)
    (h6 : reRawNat (fs.getD 6 .none) = 0) (h5 : fs.getD 5 .none = .ref tup) (hcode : (items.map reRawOf).map (·.toNat) = nameCode) (hx : x.length ≤ 1000000) (hn : Plain x) (h : Q .none s) :
    wpAny (model prog w) A (call (.builtin "re.Pattern.search") [.ref pat, .str x t]) Q E s :=
  re_search nameCode (X _ _ hp) hc hd (X _ _ ht) htd h6 h5 hcode (by decide +kernel) (by decide +kernel) hx (fun i hi => nameNo (hn i hi).1 (hn i hi).2) h
theorem re_value (X : K.In s.heap) (hp : K.lookup pat = some op) (hc : op.cls = .type "re.Pattern") (hd : op.data = .fields fs) (ht : K.lookup tup = some ot) (htd : ot.data = .seq items n)
    (h6 : reRawNat (fs.getD 6 .none) = 0) (h5 : fs.getD 5 .none = .ref tup) (hcode : (items.map reRawOf).map (·.toNat) = valueCode) (hx : x.length ≤ 1000000) (hn : Plain x) (h : Q .none s) :
    wpAny (model prog w) A (call (.builtin "re.Pattern.search") [.ref pat, .str x t]) Q E s :=
  re_search valueCode (X _ _ hp) hc hd (X _ _ ht) htd h6 h5 hcode (by decide +kernel) (by decide +kernel) hx (fun i hi => valueNo (hn i hi).1 (hn i hi).2) h
end
end Mine
end
section
open PySem PySem.W PyProof.Rows PyProof.V PySem.Calls PyProof.Rows.LCg
set_option Elab.async false
set_option maxRecDepth 100000
namespace Mine
/-- a turn's end over a ledger that stays -/
def TurnEnd (h₀ : Heap) (L : Addr) (m : Str → Option Value) (s₁ : Shared) (led : List (Addr × Obj)) (J : Prop) (s₂ : Shared) : Prop :=
  ∃ h' tk, s₂ = { s₁ with heap := h', toks := tk } ∧ Fr h₀ L h' m ∧ News h₀ L h' led ∧ J
theorem TurnEnd.intro {h₀ h' : Heap} {L : Addr} {m : Str → Option Value} {s₁ : Shared} {led all : List (Addr × Obj)} {J : Prop} {tk : Nat} (F : Fr h₀ L h' m) (N : News h₀ L h' all) (hs : ∀ p ∈ led, p ∈ all) (j : J) : TurnEnd h₀ L m s₁ led J { s₁ with heap := h', toks := tk } :=
  ⟨h', tk, rfl, F, fun p hp => N p (hs p hp), j⟩
section
variable {prog : Program} {w : World} {A : Around} {h₀ : Heap} {L : Addr} {m : Str → Option Value} {env : Env} {ct elt : PySem.Expr} {x x₂ : Str} {scope : Scope} {cl : List (Str × Addr)} {s : Shared} {S : List (Addr × Obj) → Prop} {P : Nat → Value → Prop} {Fin : List Value → List (Addr × Obj) → Prop} {news : List (Addr × Obj)} {n : Nat}
theorem restT_ind (J : Nat → List Value → Prop) (hS : S news)
    (step : ∀ i ys, i < n → J i ys → ∀ v I oI C oC D m₂ h tk (E' : Value → Shared → Prop), P i v → NsObj oC m₂ → m₂ x = some v → Fr h₀ L h m → News h₀ L h ((I, oI) :: (C, oC) :: (D, lst ys) :: news) → Off3 I C D news → ((@Ne Nat I C) ∧ (@Ne Nat I D) ∧ (@Ne Nat C D)) →
      wpAny (model prog w) A (isTrue ct (compEnvC scope cl C env) (eval ct (compEnvC scope cl C env))) (fun ok s' => if ok = true then
        wpAny (model prog w) A (eval elt (compEnvC scope cl C env)) (fun y s'' => TurnEnd h₀ L m { s with heap := h, toks := tk } ((I, oI) :: (C, oC) :: (D, lst ys) :: news) (J (i + 1) (ys ++ [y])) s'') E' s'
        else TurnEnd h₀ L m { s with heap := h, toks := tk } ((I, oI) :: (C, oC) :: (D, lst ys) :: news) (J (i + 1) ys) s') E' { s with heap := h, toks := tk })
    (fin : ∀ ys, J n ys → Fin ys news) : ∀ k i ys, k + i = n → J i ys → LCt.CompRestT prog w A h₀ L m env ct elt x scope cl s S P Fin k i ys news
  | 0, i, ys, e, j => LCt.CompRestT.zero (fin ys (by have : i = n := by omega
                                                     exact this ▸ j))
  | k + 1, i, ys, e, j => LCt.CompRestT.succ fun v I oI C oC D m₂ h tk E' hv hC hx F N off ne => by
    refine wpAny_mono (step i ys (by omega) j v I oI C oC D m₂ h tk E' hv hC hx F N off ne) (fun ok s' h' => ?_) fun _ _ e => e
    cases ok with
    | true =>
      simp only [if_true] at h' ⊢
      refine wpAny_mono h' (fun y s'' t => ?_) fun _ _ e => e
      obtain ⟨h₂, tk₂, rfl, F₂, N₂, j₂⟩ := t
      exact ⟨h₂, tk₂, news, rfl, F₂, N₂, off, hS, restT_ind J hS step fin k (i + 1) _ (by omega) j₂⟩
    | false =>
      simp only [Bool.false_eq_true, if_false] at h' ⊢
      obtain ⟨h₂, tk₂, rfl, F₂, N₂, j₂⟩ := h'
      exact ⟨h₂, tk₂, news, rfl, F₂, N₂, off, hS, restT_ind J hS step fin k (i + 1) _ (by omega) j₂⟩
theorem restU_ind (J : Nat → List Value → Prop) (hS : S news)
    (step : ∀ i ys, i < n → J i ys → ∀ v I oI C oC D m₂ h tk (E' : Value → Shared → Prop), P i v → NsObj oC m₂ → m₂ x = some v → Fr h₀ L h m → News h₀ L h ((I, oI) :: (C, oC) :: (D, lst ys) :: news) → Off3 I C D news → ((@Ne Nat I C) ∧ (@Ne Nat I D) ∧ (@Ne Nat C D)) →
      wpAny (model prog w) A (eval elt (compEnvC scope cl C env)) (fun y s'' => TurnEnd h₀ L m { s with heap := h, toks := tk } ((I, oI) :: (C, oC) :: (D, lst ys) :: news) (J (i + 1) (ys ++ [y])) s'') E' { s with heap := h, toks := tk })
    (fin : ∀ ys, J n ys → Fin ys news) : ∀ k i ys, k + i = n → J i ys → LCg.CompRest prog w A h₀ L m env elt x scope cl s S P Fin k i ys news
  | 0, i, ys, e, j => LCg.CompRest.zero (fin ys (by have : i = n := by omega
                                                    exact this ▸ j))
  | k + 1, i, ys, e, j => LCg.CompRest.succ fun v I oI C oC D m₂ h tk E' hv hC hx F N off ne => by
    refine wpAny_mono (step i ys (by omega) j v I oI C oC D m₂ h tk E' hv hC hx F N off ne) (fun y s'' t => ?_) fun _ _ e => e
    obtain ⟨h₂, tk₂, rfl, F₂, N₂, j₂⟩ := t
    exact ⟨h₂, tk₂, news, rfl, F₂, N₂, off, hS, restU_ind J hS step fin k (i + 1) _ (by omega) j₂⟩
end
end Mine
namespace Mine
theorem rows_ground {h g : Heap} {h₀ : Heap} {L C x dx l : Addr} {od : Obj} {lv : Array Value} {n : Nat} {vs : List Value} {rows : List (Str × Str)} (R : RowsAt h vs rows) (N : News h₀ L h [(l, listOf lv n), (x, instObj C dx), (dx, od)]) (hod : od.cls = .type "dict")
    (hk : ∀ b o, b ≠ l → b ≠ x → b ≠ dx → h.get? b = some o → g.get? b = some o) : RowsAt g vs rows := by
  have n1 := (N _ (.head _)).1
  have n2 := (N _ (.tail _ (.head _))).1
  have n3 := (N _ (.tail _ (.tail _ (.head _)))).1
  induction R with
  | nil => exact .nil
  | @cons T k v t u vs rows ht _ ih =>
    obtain ⟨o, ho, hc, q, hd⟩ := ht
    have e1 : ∀ b ob, h.get? b = some ob → ob.cls ≠ .type "tuple" → T ≠ b := fun b ob hb hne e => hne (by subst e; rw [ho] at hb; cases hb; exact hc)
    exact .cons ⟨o, hk _ o (e1 _ _ n1 (fun e => absurd (Value.type.inj e) (by decide))) (e1 _ _ n2 (by intro e; cases e)) (e1 _ _ n3 (by rw [hod]; exact fun e => absurd (Value.type.inj e) (by decide))) ho, hc, q, hd⟩ ih
theorem strs_snoc {ys : List Value} {zs : List Str} (h : StrsAre ys zs) (z : Str) (t : Tok) : StrsAre (ys ++ [.str z t]) (zs ++ [z]) := by
  induction h with
  | nil => exact .cons _ _ .nil
  | cons y t _ ih => exact .cons y t ih
end Mine
namespace Mine
theorem filt_yes {α : Type} {p : α → Bool} {l : List α} {i : Nat} {r : α} (e : l[i]? = some r) (h : p r = true) : (l.take (i + 1)).filter p = (l.take i).filter p ++ [r] := by
  rw [List.take_add_one, e, List.filter_append]
  simp [h]
theorem filt_no {α : Type} {p : α → Bool} {l : List α} {i : Nat} {r : α} (e : l[i]? = some r) (h : p r = false) : (l.take (i + 1)).filter p = (l.take i).filter p := by
  rw [List.take_add_one, e, List.filter_append]
  simp [h]
end Mine
namespace Mine
/-- a goal that no line of the walk knows: the walk stops here -/
def Hold (P : Prop) : Prop := P
theorem Hold.out {P : Prop} (h : Hold P) : P := h
theorem Hold.mk {P : Prop} (h : P) : Hold P := h
end Mine
end
section
open PySem PySem.W PyProof.Rows PyProof.V PySem.Calls PyProof.Rows.LCg
set_option Elab.async false
set_option maxRecDepth 100000
set_option maxHeartbeats 2000000
namespace Mine
section
variable {prog : Program} {w : World} {A : Around} {E : Value → Shared → Prop} {s : Shared} {h₀ : Heap} {L : Addr} {m : Str → Option Value} {env : Env}
theorem loop_pairT {elt iter : PySem.Expr} {elts : List PySem.Expr} {x1} {tp : Pos} {ifs : List PySem.Expr} {scope : Scope} {pos : Pos} {it acc : Value} {env : Env} {R : Result → Shared → Prop} (I : Nat → Shared → Prop)
    (turn : ∀ n s, I n s → wpAny (model prog w) A (pyNext it) (fun r s₁ => match r with
      | none => R (.ok .next) s₁
      | some v => wpAny (model prog w) A (letOwnedTupleGo (.Tuple elts x1 tp) it v) (fun _ s₁' => wpAny (model prog w) A (assign (.Tuple elts x1 tp) env v) (fun _ s₂ =>
          wpAny (model prog w) A (forIn ifs true fun c r => if r = true then do let ok ← isTrue c env (eval c env); pure (ForInStep.yield ok) else pure (ForInStep.yield r)) (fun ok s₃ =>
            if ok = true then wpAny (model prog w) A (eval elt env) (fun x s₄ =>
              wpAny (model prog w) A (call (.builtin "list.append") [acc, x]) (fun _ s₅ => ∃ m, m < n ∧ I m s₅) (notedBy (model prog w) A env fun e s' => R (.error e) s') s₄) (notedBy (model prog w) A env fun e s' => R (.error e) s') s₃
            else ∃ m, m < n ∧ I m s₃) (notedBy (model prog w) A env fun e s' => R (.error e) s') s₂)
          (notedBy (model prog w) A env fun e s' => R (.error e) s') s₁') (notedBy (model prog w) A env fun e s' => R (.error e) s') s₁) (notedBy (model prog w) A env fun e s' => R (.error e) s') s)
    (n : Nat) (h : I n s) : codeAny (model prog w) A (.compLoop (.ListComp elt [⟨.Tuple elts x1 tp, iter, ifs, 0⟩] scope pos) 0 it acc env) R s := by
  refine codeAny_loop rfl I (fun n s hI => ?_) n h
  show wpAny _ A ((compTurn (.ListComp elt [⟨.Tuple elts x1 tp, iter, ifs, 0⟩] scope pos) 0 it acc env).onRaise (fun x => do noteFrame x env; theTreesLotGoes x)) _ _ s
  refine wpAny_noted ?_
  rw [compTurn_list]
  refine wpAny_bind (wpAny_standAt (wpAny_bind (wpAny_mono (turn n s hI) (fun r s₁ h₁ => ?_) fun _ _ h' => h')))
  cases r with
  | none => exact wpAny_pure h₁
  | some v =>
    refine wpAny_bind (wpAny_mono h₁ (fun _ s₁' h₁' => ?_) fun _ _ h' => h')
    refine wpAny_bind (wpAny_mono h₁' (fun _ s₂ h₂ => wpAny_bind (wpAny_mono h₂ (fun ok s₃ h₃ => ?_) fun _ _ h' => h')) fun _ _ h' => h')
    cases ok with
    | false => exact wpAny_pure ⟨rfl, h₃⟩
    | true => exact wpAny_bind (wpAny_bind (wpAny_mono h₃ (fun x s₄ h₄ => wpAny_bind (wpAny_mono h₄ (fun _ s₅ h₅ => wpAny_pure (wpAny_pure ⟨rfl, h₅⟩)) fun _ _ h' => h')) fun _ _ h' => h'))
/-- what a comprehension with two targets asks of its zip -/
structure SrcZ (prog : Program) (w : World) (A : Around) (h₀ : Heap) (L : Addr) (m : Str → Option Value) (env : Env) (elt : PySem.Expr) (ifs : List PySem.Expr) (x x₂ : Str) (scope : Scope) (cl : List (Str × Addr)) (Q : Value → Shared → Prop) (xv : Value) (s₁ : Shared) : Prop where
  go : ∃ (z TI TO i1 i2 l1 l2 : Addr) (xs ys : List Value) (news : List (Addr × Obj)) (J : Nat → List Value → Prop) (ol1 ol2 : Obj) (n : Nat),
    xv = .ref z ∧ A.handled = none ∧ ZipApart z TI TO i1 i2 l1 l2 ∧
    (IsZip s₁.heap z TI TO .none ∧ IsPair s₁.heap TI (.ref i1) (.ref i2) ∧ (∃ a b, IsPair s₁.heap TO a b) ∧ s₁.heap.IsListIter i1 l1 0 ∧ s₁.heap.IsListIter i2 l2 0 ∧ s₁.heap.IsList l1 xs.toArray ∧ s₁.heap.IsList l2 ys.toArray) ∧
    Fr h₀ L s₁.heap m ∧ News h₀ L s₁.heap news ∧ (∀ b, b = z ∨ b = TI ∨ b = TO ∨ b = i1 ∨ b = i2 → h₀.get? b = none ∧ b ≠ L ∧ ∀ p ∈ news, p.1 ≠ b) ∧ (l1, ol1) ∈ news ∧ (l2, ol2) ∈ news ∧
    n ≤ sizeLine ∧ min xs.length ys.length = n ∧ J 0 [] ∧
    (∀ i ys' v₁ v₂, xs[i]? = some v₁ → ys[i]? = some v₂ → J i ys' → ys'.length ≤ i → ∀ oz oTI oTO o1 o2 C oC D m₂ h tk (E' : Value → Shared → Prop), NsObj oC m₂ → m₂ x = some v₁ → m₂ x₂ = some v₂ → Fr h₀ L h m →
      News h₀ L h ((z, oz) :: (TI, oTI) :: (TO, oTO) :: (i1, o1) :: (i2, o2) :: (C, oC) :: (D, lst ys') :: news) →
      wpAny (model prog w) A (forIn ifs true fun c r => if r = true then do let ok ← isTrue c (compEnvC scope cl C env) (eval c (compEnvC scope cl C env)); pure (ForInStep.yield ok) else pure (ForInStep.yield r)) (fun ok s' => if ok = true then
        wpAny (model prog w) A (eval elt (compEnvC scope cl C env)) (fun y s'' => TurnEnd h₀ L m { s₁ with heap := h, toks := tk } ((z, oz) :: (TI, oTI) :: (TO, oTO) :: (i1, o1) :: (i2, o2) :: (C, oC) :: (D, lst ys') :: news) (J (i + 1) (ys' ++ [y])) s'') E' s'
        else TurnEnd h₀ L m { s₁ with heap := h, toks := tk } ((z, oz) :: (TI, oTI) :: (TO, oTO) :: (i1, o1) :: (i2, o2) :: (C, oC) :: (D, lst ys') :: news) (J (i + 1) ys') s') E' { s₁ with heap := h, toks := tk }) ∧
    (∀ D ys' h tk, J n ys' → Fr h₀ L h m → News h₀ L h ((D, lst ys') :: news) → (∀ p ∈ news, p.1 ≠ D) → Q (.ref D) { s₁ with heap := h, toks := tk })
end
end Mine
namespace Mine
section
variable {prog : Program} {w : World} {A : Around} {E : Value → Shared → Prop} {s : Shared} {h₀ : Heap} {L : Addr} {m : Str → Option Value} {env : Env}
theorem frB {h h' : Heap} {wr : List Addr} (F : Fr h₀ L h m) (hk : ∀ b o, b ∉ wr → h.get? b = some o → h'.get? b = some o) (hL : L ∉ wr) (hI : ∀ b ∈ wr, h₀.get? b = none) : Fr h₀ L h' m :=
  ⟨F.ns.at' fun o e => hk L o hL e, fun b o e => hk b o (fun hm => by rw [hI b hm] at e; cases e) (F.keep b o e), F.above⟩
theorem newsB {h h' : Heap} {wr : List Addr} {news : List (Addr × Obj)} (N : News h₀ L h news) (hk : ∀ b o, b ∉ wr → h.get? b = some o → h'.get? b = some o) (off : ∀ p ∈ news, p.1 ∉ wr) : News h₀ L h' news :=
  fun p hp => ⟨hk _ _ (off p hp) (N p hp).1, (N p hp).2⟩
set_option linter.unusedVariables false in
theorem block_Z {elt iter : PySem.Expr} {ifs : List PySem.Expr} {x x₂ : Str} {px px₂ tp : Pos} {tk} {scope : Scope} {cl : List (Str × Addr)} {pos : Pos} {s₂ : Shared} {z TI TO i1 i2 l1 l2 : Addr} {xs ys : List Value} {news : List (Addr × Obj)} {J : Nat → List Value → Prop} {ol1 ol2 : Obj} {n : Nat}
    {RR : Value → Addr → Result → Shared → Prop} (hh : A.handled = none) (D : ZipApart z TI TO i1 i2 l1 l2)
    (st : IsZip s₂.heap z TI TO .none ∧ IsPair s₂.heap TI (.ref i1) (.ref i2) ∧ (∃ a b, IsPair s₂.heap TO a b) ∧ s₂.heap.IsListIter i1 l1 0 ∧ s₂.heap.IsListIter i2 l2 0 ∧ s₂.heap.IsList l1 xs.toArray ∧ s₂.heap.IsList l2 ys.toArray)
    (F : Fr h₀ L s₂.heap m) (N : News h₀ L s₂.heap news) (off : ∀ b, b = z ∨ b = TI ∨ b = TO ∨ b = i1 ∨ b = i2 → h₀.get? b = none ∧ b ≠ L ∧ ∀ p ∈ news, p.1 ≠ b) (m1 : (l1, ol1) ∈ news) (m2 : (l2, ol2) ∈ news)
    (hsz : n ≤ sizeLine) (hlen : min xs.length ys.length = n) (hJ : J 0 [])
    (hcell : ∀ y ∈ scope.names, y.2 ≠ .cell) (hkind : scope.kind = .function) (hx : scope.names.lookup x = some .local) (hx₂ : scope.names.lookup x₂ = some .local) (hxx : x ≠ x₂)
    (turn : ∀ i ys' v₁ v₂, xs[i]? = some v₁ → ys[i]? = some v₂ → J i ys' → ys'.length ≤ i → ∀ oz oTI oTO o1 o2 C oC D m₂ h tk (E' : Value → Shared → Prop), NsObj oC m₂ → m₂ x = some v₁ → m₂ x₂ = some v₂ → Fr h₀ L h m →
      News h₀ L h ((z, oz) :: (TI, oTI) :: (TO, oTO) :: (i1, o1) :: (i2, o2) :: (C, oC) :: (D, lst ys') :: news) →
      wpAny (model prog w) A (forIn ifs true fun c r => if r = true then do let ok ← isTrue c (compEnvC scope cl C env) (eval c (compEnvC scope cl C env)); pure (ForInStep.yield ok) else pure (ForInStep.yield r)) (fun ok s' => if ok = true then
        wpAny (model prog w) A (eval elt (compEnvC scope cl C env)) (fun y s'' => TurnEnd h₀ L m { s₂ with heap := h, toks := tk } ((z, oz) :: (TI, oTI) :: (TO, oTO) :: (i1, o1) :: (i2, o2) :: (C, oC) :: (D, lst ys') :: news) (J (i + 1) (ys' ++ [y])) s'') E' s'
        else TurnEnd h₀ L m { s₂ with heap := h, toks := tk } ((z, oz) :: (TI, oTI) :: (TO, oTO) :: (i1, o1) :: (i2, o2) :: (C, oC) :: (D, lst ys') :: news) (J (i + 1) ys') s') E' { s₂ with heap := h, toks := tk })
    (hRR : ∀ D C h tk m' ys', J n ys' → Fr h₀ L h m → News h₀ L h ((D, lst ys') :: news) → (∀ p ∈ news, p.1 ≠ D) → h.Ns C m' → h₀.get? C = none → C ≠ L → C ≠ D → (∀ p ∈ news, p.1 ≠ C) → RR (.ref D) C (.ok .next) { s₂ with heap := h, toks := tk }) :
    wpAny (model prog w) A (newList []) (fun acc s₃ => wpAny (model prog w) A (newFunctionEnv scope env.globals cl [] env.qual none .none (some env)) (fun cenv s₄ =>
      codeAny (model prog w) A (.compStart (.ListComp elt [⟨.Tuple [.Name x px, .Name x₂ px₂] tk tp, iter, ifs, 0⟩] scope pos) 0 (.ref z) acc { cenv with scope := relabel scope env }) (RR acc cenv.locals) s₄) E s₃) E s₂ := by
  have W := WalksT.zip2 (prog := prog) (w := w) hh z TI TO i1 i2 l1 l2 D xs.toArray ys.toArray
  have hn : min xs.toArray.size ys.toArray.size = n := by simp [hlen]
  rw [hn] at W
  generalize hSt : (fun (i : Nat) (h : Heap) => IsZip h z TI TO .none ∧ IsPair h TI (.ref i1) (.ref i2) ∧ (∃ a b, IsPair h TO a b) ∧ h.IsListIter i1 l1 i ∧ h.IsListIter i2 l2 i ∧ h.IsList l1 xs.toArray ∧ h.IsList l2 ys.toArray) = St at W
  have st0 : St 0 s₂.heap := by rw [← hSt]; exact st
  have hObj : ∀ i h, St i h → ∃ oz oTI oTO o1 o2, h.get? z = some oz ∧ h.get? TI = some oTI ∧ h.get? TO = some oTO ∧ h.get? i1 = some o1 ∧ h.get? i2 = some o2 := by
    intro i h e
    rw [← hSt] at e
    obtain ⟨hz, hTI, ⟨a, b, hTO⟩, ⟨o1, e1, _⟩, ⟨o2, e2, _⟩, _⟩ := e
    exact ⟨_, _, _, o1, o2, hz, hTI, hTO, e1, e2⟩
  have wrOff : ∀ b ∈ [z, TO, i1, i2], h₀.get? b = none ∧ b ≠ L ∧ ∀ p ∈ news, p.1 ≠ b := by
    intro b hb
    simp only [List.mem_cons, List.not_mem_nil, or_false] at hb
    rcases hb with rfl | rfl | rfl | rfl
    · exact off _ (.inl rfl)
    · exact off _ (.inr (.inr (.inl rfl)))
    · exact off _ (.inr (.inr (.inr (.inl rfl))))
    · exact off _ (.inr (.inr (.inr (.inr rfl))))
  have hLwr : L ∉ [z, TO, i1, i2] := fun hb => (wrOff L hb).2.1 rfl
  have hTIwr : TI ∉ [z, TO, i1, i2] := by
    simp only [List.mem_cons, List.not_mem_nil, or_false, not_or]
    exact ⟨D.TIz, D.TITO, D.TIi1, D.TIi2⟩
  refine wpAny_newObj_type (wpAny_newFunctionEnv hcell (by intro y hy; simp at hy) (fun h₁ hns₁ hsb₁ => ?_) hkind)
  dsimp only at hns₁ hsb₁ ⊢
  generalize hH2 : s₂.heap.push { cls := .type "list", dict := none, data := .seq ([] : List Value).toArray } = H2 at hns₁ hsb₁ ⊢
  have hC : H2.objs.size = s₂.heap.objs.size + 1 := by rw [← hH2, Heap.size_push]
  have hDC : s₂.heap.objs.size ≠ H2.objs.size := by rw [hC]; exact Nat.ne_of_lt (Nat.lt_succ_self _)
  have below : ∀ b, b < s₂.heap.objs.size → b ≠ H2.objs.size ∧ b ≠ s₂.heap.objs.size := fun b hb => ⟨by rw [hC]; exact Nat.ne_of_lt (Nat.lt_succ_of_lt hb), Nat.ne_of_lt hb⟩
  have old : ∀ b o, s₂.heap.get? b = some o → h₁.get? b = some o := fun b o e => hsb₁.extBut b o (below b (Heap.lt_size e)).1 (Heap.get?_push_of_some _ (hH2 ▸ Heap.get?_push_of_some _ e))
  have hacc : h₁.get? s₂.heap.objs.size = some (lst []) := hsb₁.extBut _ _ hDC (Heap.get?_push_of_some _ (hH2 ▸ Heap.get?_push_size _ rfl))
  have hst₁ : St 0 h₁ := W.frame _ _ _ st0 fun b _ o e => old b o e
  have fresh : ∀ a, s₂.heap.objs.size ≤ a → s₂.heap.get? a = none := fun a ha => by
    cases e : s₂.heap.get? a with
    | none => rfl
    | some o' => exact absurd (Heap.lt_size e) (Nat.not_lt.mpr ha)
  have fresh₀ : ∀ a, s₂.heap.objs.size ≤ a → h₀.get? a = none := fun a ha => by
    cases e : h₀.get? a with
    | none => rfl
    | some o' => have := F.keep a o' e; rw [fresh a ha] at this; cases this
  have hD₀ : h₀.get? s₂.heap.objs.size = none := fresh₀ _ (Nat.le_refl _)
  have hC₀ : h₀.get? H2.objs.size = none := fresh₀ _ (by rw [hC]; exact Nat.le_succ _)
  have hLlt : L < s₂.heap.objs.size := F.ns.lt
  have hDL : s₂.heap.objs.size ≠ L := Ne.symm (below L hLlt).2
  have hCL : H2.objs.size ≠ L := Ne.symm (below L hLlt).1
  have fpLt : ∀ b ∈ [z, TI, TO, i1, i2, l1, l2], b < s₂.heap.objs.size := by
    intro b hb
    obtain ⟨oz, oTI, oTO, o1, o2, e1, e2, e3, e4, e5⟩ := hObj _ _ st0
    simp only [List.mem_cons, List.not_mem_nil, or_false] at hb
    rcases hb with rfl | rfl | rfl | rfl | rfl | rfl | rfl
    · exact Heap.lt_size e1
    · exact Heap.lt_size e2
    · exact Heap.lt_size e3
    · exact Heap.lt_size e4
    · exact Heap.lt_size e5
    · exact Heap.lt_size (N _ m1).1
    · exact Heap.lt_size (N _ m2).1
  have hCwr : H2.objs.size ∉ [z, TO, i1, i2] := fun hb => (below _ (fpLt _ (W.sub _ hb))).1 rfl
  have hDwr : s₂.heap.objs.size ∉ [z, TO, i1, i2] := fun hb => (below _ (fpLt _ (W.sub _ hb))).2 rfl
  have hnC : ∀ p ∈ news, p.1 ≠ H2.objs.size := fun p hp => (below _ (Heap.lt_size (N p hp).1)).1
  have hnD : ∀ p ∈ news, p.1 ≠ s₂.heap.objs.size := fun p hp => (below _ (Heap.lt_size (N p hp).1)).2
  have hnW : ∀ p ∈ news, p.1 ∉ [z, TO, i1, i2] := fun p hp hb => (wrOff _ hb).2.2 p hp rfl
  have loop : ∀ s₃ : Shared, s₃ = { s₂ with heap := h₁, toks := s₂.toks + ([] : List (Str × Value)).length } →
      codeAny (model prog w) A (.compLoop (.ListComp elt [⟨.Tuple [.Name x px, .Name x₂ px₂] tk tp, iter, ifs, 0⟩] scope pos) 0 (.ref z) (.ref s₂.heap.objs.size) (compEnvC scope cl H2.objs.size env))
        (RR (.ref s₂.heap.objs.size) H2.objs.size) s₃ := by
    rintro s₃ rfl
    refine loop_pairT
      (fun k s' => ∃ h' tk i ys' m', s' = { s₂ with heap := h', toks := tk } ∧ i ≤ n ∧ k = n + 1 - i ∧ ys'.length ≤ i ∧ St i h' ∧ Fr h₀ L h' m ∧ h'.Ns H2.objs.size m' ∧ News h₀ L h' ((s₂.heap.objs.size, lst ys') :: news) ∧ J i ys') ?_ (n + 1)
      ⟨h₁, _, 0, [], _, rfl, Nat.zero_le _, rfl, Nat.le_refl _, hst₁, F.keeps old, hns₁, fun p hp => ?_, hJ⟩
    · rintro k s' ⟨h', tk, i, ys', m', rfl, hi, rfl, hyl, hst', F', hn', N', j'⟩
      by_cases hlt : i < n
      · refine W.item i _ _ _ hlt hst' fun T vals h₂ tk₂ hPv hTge hT hMid hk₂ => ?_
        obtain ⟨v₁, v₂, hv1, hv2, rfl⟩ := hPv
        have N₂ : News h₀ L h₂ ((s₂.heap.objs.size, lst ys') :: news) := newsB N' hk₂ fun p hp => by
          rcases List.mem_cons.mp hp with rfl | hp
          · exact hDwr
          · exact hnW p hp
        have F₂ : Fr h₀ L h₂ m := frB F' hk₂ hLwr fun b hb => (wrOff b hb).1
        have hn₂ : h₂.Ns H2.objs.size m' := hn'.at' fun o e => hk₂ _ o hCwr e
        refine W.go _ _ _ i T _ _ _ hMid fun h₃ hst₃ hk₃ => ?_
        have hT₃ : IsTup h₃ T #[v₁, v₂] := by
          obtain ⟨o, ho, hc, q, hd⟩ := hT
          exact ⟨o, hk₃ T o (W.apart _ _ _ hMid) ho, hc, q, hd⟩
        have N₃ : News h₀ L h₃ ((s₂.heap.objs.size, lst ys') :: news) := newsB N₂ hk₃ fun p hp => by
          rcases List.mem_cons.mp hp with rfl | hp
          · exact hDwr
          · exact hnW p hp
        have F₃ : Fr h₀ L h₃ m := frB F₂ hk₃ hLwr fun b hb => (wrOff b hb).1
        have hn₃ : h₃.Ns H2.objs.size m' := hn₂.at' fun o e => hk₃ _ o hCwr e
        refine assign_Tuple_tuple hh hT₃ rfl rfl fun h₅ he => ?_
        have he' : ∀ b o, h₃.get? b = some o → h₅.get? b = some o := fun b o e => he b o (Nat.ne_of_lt (Heap.lt_size e)) e
        refine assignInOrder_cons (wpAny_assign_Name (wpAny_storeName_local (lookup_relabel_local hx) (hn₃.at' fun o e => he' _ o e) (fun h₆ hn₆ hs₆ => ?_) (by simp [compEnvC, relabel, hkind])))
        refine assignInOrder_cons (wpAny_assign_Name (wpAny_storeName_local (lookup_relabel_local hx₂) hn₆ (fun h₇ hn₇ hs₇ => ?_) (by simp [compEnvC, relabel, hkind])))
        refine assignInOrder_nil ?_
        have old7 : ∀ b o, b ≠ H2.objs.size → h₃.get? b = some o → h₇.get? b = some o := fun b o hb e => hs₇.extBut b o hb (hs₆.extBut b o hb (he' b o e))
        have hst₇ : St (i + 1) h₇ := W.frame _ _ _ hst₃ fun b hb o e => old7 b o (below b (fpLt b hb)).1 e
        obtain ⟨oz, oTI, oTO, o1, o2, e1, e2, e3, e4, e5⟩ := hObj _ _ hst₇
        obtain ⟨oC, heC, hoC⟩ := ns_obj hn₇
        have F₇ : Fr h₀ L h₇ m := ((F₃.keeps he').change hs₆ hCL hC₀).change hs₇ hCL hC₀
        have N₇ : News h₀ L h₇ ((z, oz) :: (TI, oTI) :: (TO, oTO) :: (i1, o1) :: (i2, o2) :: (H2.objs.size, oC) :: (s₂.heap.objs.size, lst ys') :: news) := fun p hp => by
          rcases List.mem_cons.mp hp with rfl | hp
          · exact ⟨e1, (off _ (.inl rfl)).2.1, (off _ (.inl rfl)).1⟩
          rcases List.mem_cons.mp hp with rfl | hp
          · exact ⟨e2, (off _ (.inr (.inl rfl))).2.1, (off _ (.inr (.inl rfl))).1⟩
          rcases List.mem_cons.mp hp with rfl | hp
          · exact ⟨e3, (off _ (.inr (.inr (.inl rfl)))).2.1, (off _ (.inr (.inr (.inl rfl)))).1⟩
          rcases List.mem_cons.mp hp with rfl | hp
          · exact ⟨e4, (off _ (.inr (.inr (.inr (.inl rfl))))).2.1, (off _ (.inr (.inr (.inr (.inl rfl))))).1⟩
          rcases List.mem_cons.mp hp with rfl | hp
          · exact ⟨e5, (off _ (.inr (.inr (.inr (.inr rfl))))).2.1, (off _ (.inr (.inr (.inr (.inr rfl))))).1⟩
          rcases List.mem_cons.mp hp with rfl | hp
          · exact ⟨heC, hCL, hC₀⟩
          · have zz := N₃ p hp
            refine ⟨old7 _ _ ?_ zz.1, zz.2⟩
            rcases List.mem_cons.mp hp with rfl | hp
            · exact hDC
            · exact hnC p hp
        have back : ∀ h₈, News h₀ L h₈ ((z, oz) :: (TI, oTI) :: (TO, oTO) :: (i1, o1) :: (i2, o2) :: (H2.objs.size, oC) :: (s₂.heap.objs.size, lst ys') :: news) → St (i + 1) h₈ := by
          intro h₈ N₈
          refine W.frame _ _ _ hst₇ fun b hb o e => ?_
          have g : ∀ q ∈ ((z, oz) :: (TI, oTI) :: (TO, oTO) :: (i1, o1) :: (i2, o2) :: (H2.objs.size, oC) :: (s₂.heap.objs.size, lst ys') :: news), q.1 = b → h₈.get? b = some o := by
            intro q hq hqb
            have a1 := (N₇ q hq).1
            rw [hqb] at a1
            rw [a1] at e
            cases e
            exact hqb ▸ (N₈ q hq).1
          simp only [List.mem_cons, List.not_mem_nil, or_false] at hb
          rcases hb with rfl | rfl | rfl | rfl | rfl | rfl | rfl
          · exact g _ (.head _) rfl
          · exact g _ (.tail _ (.head _)) rfl
          · exact g _ (.tail _ (.tail _ (.head _))) rfl
          · exact g _ (.tail _ (.tail _ (.tail _ (.head _)))) rfl
          · exact g _ (.tail _ (.tail _ (.tail _ (.tail _ (.head _))))) rfl
          · exact g _ (.tail _ (.tail _ (.tail _ (.tail _ (.tail _ (.tail _ (.tail _ m1))))))) rfl
          · exact g _ (.tail _ (.tail _ (.tail _ (.tail _ (.tail _ (.tail _ (.tail _ m2))))))) rfl
        refine wpAny_mono (turn i ys' v₁ v₂ (by simpa using hv1) (by simpa using hv2) j' hyl oz oTI oTO o1 o2 H2.objs.size oC s₂.heap.objs.size _ h₇ _ _ hoC (by simp [hxx]) (by simp) F₇ N₇) (fun ok s₄ h₄ => ?_) fun _ _ e => e
        cases ok with
        | true =>
          simp only [if_true] at h₄ ⊢
          refine wpAny_mono h₄ (fun y s₅ h₅ => ?_) fun _ _ e => e
          obtain ⟨h₈, tk₈, rfl, F₈, N₈, j₈⟩ := h₅
          have zC := (N₈ (H2.objs.size, oC) (.tail _ (.tail _ (.tail _ (.tail _ (.tail _ (.head _))))))).1
          have zD := (N₈ (s₂.heap.objs.size, lst ys') (.tail _ (.tail _ (.tail _ (.tail _ (.tail _ (.tail _ (.head _)))))))).1
          refine append_at (hsz := by show ys'.toArray.size ≤ sizeLine; rw [List.size_toArray]; exact Nat.le_trans (Nat.le_trans hyl hi) hsz) zD fun h₉ hs₉ hD₉ => ?_
          refine ⟨n + 1 - (i + 1), by omega, h₉, tk₈, i + 1, ys' ++ [y], _, rfl, hlt, rfl, by rw [List.length_append, List.length_singleton]; exact Nat.succ_le_succ hyl, W.frame _ _ _ (back _ N₈) fun b hb o e => hs₉.extBut b o (below b (fpLt b hb)).2 e, F₈.change hs₉ hDL hD₀,
            (hoC.ns zC).sameBut hs₉ (Ne.symm hDC), fun p hp => ?_, j₈⟩
          rcases List.mem_cons.mp hp with rfl | hp
          · exact ⟨hD₉.trans (congrArg some (lst_snoc ys' y)), hDL, hD₀⟩
          · have q := N₈ p (.tail _ (.tail _ (.tail _ (.tail _ (.tail _ (.tail _ (.tail _ hp)))))))
            exact ⟨hs₉.extBut _ _ (hnD p hp) q.1, q.2⟩
        | false =>
          simp only [Bool.false_eq_true, if_false] at h₄ ⊢
          obtain ⟨h₈, tk₈, rfl, F₈, N₈, j₈⟩ := h₄
          have zC := (N₈ (H2.objs.size, oC) (.tail _ (.tail _ (.tail _ (.tail _ (.tail _ (.head _))))))).1
          refine ⟨n + 1 - (i + 1), by omega, h₈, tk₈, i + 1, ys', _, rfl, hlt, rfl, Nat.le_succ_of_le hyl, back _ N₈, F₈, hoC.ns zC, fun p hp => ?_, j₈⟩
          rcases List.mem_cons.mp hp with rfl | hp
          · exact N₈ _ (.tail _ (.tail _ (.tail _ (.tail _ (.tail _ (.tail _ (.head _)))))))
          · exact N₈ p (.tail _ (.tail _ (.tail _ (.tail _ (.tail _ (.tail _ (.tail _ hp)))))))
      · obtain rfl : i = n := Nat.le_antisymm hi (Nat.not_lt.mp hlt)
        refine W.done _ _ _ hst' fun h₂ tk₂ hk₂ => ?_
        exact hRR _ _ h₂ tk₂ _ ys' j' (frB F' hk₂ hLwr fun b hb => (wrOff b hb).1) (newsB N' hk₂ fun p hp => by
          rcases List.mem_cons.mp hp with rfl | hp
          · exact hDwr
          · exact hnW p hp) hnD (hn'.at' fun o e => hk₂ _ o hCwr e) hC₀ hCL (Ne.symm hDC) hnC
    · rcases List.mem_cons.mp hp with rfl | hp
      · exact ⟨hacc, hDL, hD₀⟩
      · exact ⟨old _ _ (N p hp).1, (N p hp).2⟩
  exact codeAny_compStart_list (loop _ rfl) (W.self 0 _ _ _ hst₁ (loop _ rfl))
theorem ListComp_Z {elt iter : PySem.Expr} {ifs : List PySem.Expr} {x x₂ : Str} {px px₂ tp : Pos} {tk} {scope : Scope} {cl : List (Str × Addr)} {pos : Pos} {Q : Value → Shared → Prop} (F₀ : Fr h₀ L s.heap m)
    (hclos : closureFor scope env = pure cl) (hcell : ∀ y ∈ scope.names, y.2 ≠ .cell) (hkind : scope.kind = .function)
    (hnames : ∀ y ∈ scope.names, y.2 = .local → scope.names.lookup y.1 = some .local) (hx : scope.names.lookup x = some .local) (hx₂ : scope.names.lookup x₂ = some .local) (hxx : x ≠ x₂)
    (h : wpAny (model prog w) A (eval iter env) (SrcZ prog w A h₀ L m env elt ifs x x₂ scope cl Q) E s)
    (hs : ∀ x, foldedSetIterable iter env x = pure x := by intro _; rfl) :
    wpAny (model prog w) A (eval (.ListComp elt [⟨.Tuple [.Name x px, .Name x₂ px₂] tk tp, iter, ifs, 0⟩] scope pos) env) Q E s := by
  rw [eval_ListComp]
  refine wpAny_comprehension_free (use := none) rfl hs hclos hkind hnames (wpAny_mono h (fun xv s₁ h₁ => ?_) fun _ _ e => e)
  obtain ⟨z, TI, TO, i1, i2, l1, l2, xs, ys, news, J, ol1, ol2, n, rfl, hh, D, st, F, N, off, m1, m2, hsz, hlen, hJ, turn, fin⟩ := h₁.go
  refine wpAny_pyIter_zip st.1 ?_
  refine block_Z hh D st F N off m1 m2 hsz hlen hJ hcell hkind hx hx₂ hxx turn ?_
  intro D C h tk m' ys' j F' N' o1 hn hC₀ hCL hCD offC
  refine ⟨m', hn, fun h'' hs'' => fin D ys' h'' tk j (F'.change hs'' hCL hC₀) (fun p hp => ?_) o1⟩
  refine ⟨hs''.extBut _ _ ?_ (N' p hp).1, (N' p hp).2⟩
  rcases List.mem_cons.mp hp with rfl | hp
  · exact Ne.symm hCD
  · exact offC p hp
theorem SrcZ.call {elt : PySem.Expr} {ifs : List PySem.Expr} {x x₂ : Str} {scope : Scope} {cl : List (Str × Addr)} {Q : Value → Shared → Prop} {l1 l2 : Addr} {xs ys : List Value} {n1 n2 n : Nat} {news : List (Addr × Obj)} (J : Nat → List Value → Prop)
    (hh : A.handled = none) (F : Fr h₀ L s.heap m) (N : News h₀ L s.heap news) (m1 : (l1, listOf xs.toArray n1) ∈ news) (m2 : (l2, listOf ys.toArray n2) ∈ news) (hsz : n ≤ sizeLine) (hlen : min xs.length ys.length = n) (hJ : J 0 [])
    (turn : ∀ z TI TO i1 i2 i ys' v₁ v₂ g, xs[i]? = some v₁ → ys[i]? = some v₂ → J i ys' → ys'.length ≤ i → ∀ oz oTI oTO o1 o2 C oC D m₂ h tk (E' : Value → Shared → Prop), NsObj oC m₂ → m₂ x = some v₁ → m₂ x₂ = some v₂ → Fr h₀ L h m →
      News h₀ L h ((z, oz) :: (TI, oTI) :: (TO, oTO) :: (i1, o1) :: (i2, o2) :: (C, oC) :: (D, lst ys') :: news) →
      wpAny (model prog w) A (forIn ifs true fun c r => if r = true then do let ok ← isTrue c (compEnvC scope cl C env) (eval c (compEnvC scope cl C env)); pure (ForInStep.yield ok) else pure (ForInStep.yield r)) (fun ok s' => if ok = true then
        wpAny (model prog w) A (eval elt (compEnvC scope cl C env)) (fun y s'' => TurnEnd h₀ L m { s with heap := g, toks := tk } ((z, oz) :: (TI, oTI) :: (TO, oTO) :: (i1, o1) :: (i2, o2) :: (C, oC) :: (D, lst ys') :: news) (J (i + 1) (ys' ++ [y])) s'') E' s'
        else TurnEnd h₀ L m { s with heap := g, toks := tk } ((z, oz) :: (TI, oTI) :: (TO, oTO) :: (i1, o1) :: (i2, o2) :: (C, oC) :: (D, lst ys') :: news) (J (i + 1) ys') s') E' { s with heap := h, toks := tk })
    (fin : ∀ D ys' h tk, J n ys' → Fr h₀ L h m → News h₀ L h ((D, lst ys') :: news) → (∀ p ∈ news, p.1 ≠ D) → Q (.ref D) { s with heap := h, toks := tk }) :
    wpAny (model prog w) A (call (.type "zip") [.ref l1, .ref l2]) (SrcZ prog w A h₀ L m env elt ifs x x₂ scope cl Q) E s := by
  have a1 := (N _ m1).1
  have a2 := (N _ m2).1
  have hl1 : s.heap.IsList l1 xs.toArray := ⟨_, a1, rfl, n1, rfl⟩
  have hl2 : s.heap.IsList l2 ys.toArray := ⟨_, a2, rfl, n2, rfl⟩
  refine call_zip_2 hl1 hl2 fun h' hz hTI hTO hi1 hi2 hsz' hk => ?_
  have fr : ∀ b, s.heap.objs.size ≤ b → h₀.get? b = none ∧ b ≠ L ∧ ∀ p ∈ news, p.1 ≠ b := fun b hb => ⟨by
    cases e : h₀.get? b with
    | none => rfl
    | some o' => exact absurd (Heap.lt_size (F.keep b o' e)) (Nat.not_lt.mpr hb), fun e => absurd (e ▸ F.ns.lt) (Nat.not_lt.mpr hb), fun p hp e => absurd (e ▸ Heap.lt_size (N p hp).1) (Nat.not_lt.mpr hb)⟩
  refine ⟨⟨_, _, _, _, _, l1, l2, xs, ys, news, J, _, _, n, rfl, hh, zipApart_new (Heap.lt_size a1) (Heap.lt_size a2), ⟨hz, hTI, ⟨_, _, hTO⟩, hi1, hi2, Heap.IsList.at hl1 (fun o e => hk _ o e), Heap.IsList.at hl2 (fun o e => hk _ o e)⟩, F.keeps hk, N.grown hk, ?_, m1, m2, hsz, hlen, hJ, ?_, ?_⟩⟩
  · rintro b (rfl | rfl | rfl | rfl | rfl)
    · exact fr _ (Nat.le_add_right _ _)
    · exact fr _ (Nat.le_add_right _ _)
    · exact fr _ (Nat.le_add_right _ _)
    · exact fr _ (Nat.le_refl _)
    · exact fr _ (Nat.le_add_right _ _)
  · intro i ys' v₁ v₂ e1 e2 j hyl oz oTI oTO o1 o2 C oC D m₂ h tk E' a b c F' N'
    exact turn _ _ _ _ _ i ys' v₁ v₂ _ e1 e2 j hyl oz oTI oTO o1 o2 C oC D m₂ h tk E' a b c F' N'
  · intro D ys' h tk j F' N' o
    exact fin D ys' h tk j F' N' o
end
end Mine
end
section
open PySem PySem.W PyProof.Rows
set_option Elab.async false
set_option maxRecDepth 100000
set_option maxHeartbeats 2000000
set_option pp.deepTerms true
set_option pp.proofs false
namespace Mine
theorem startswith_le {x y : Str} (h : Txt.startswith x y = true) : y.length ≤ x.length := by
  unfold Txt.startswith at h
  have := (Bool.and_eq_true_iff.mp h).1
  have := of_decide_eq_true this
  omega
local macro_rules | `(tactic| walk_at "ent") => `(tactic| ((case kA => exact rfl); (case kF => exact rfl); (case kK => assumption); (case k1 => k_asm); (case k2 => k_asm); (case k3 => k_asm); (case k5 => k_asm); (case k6 => k_is); (case k7 => k_is); (case k8 => ktr_room); (case k9 => exact BindsTo.of_eq rfl); (case c5 => decide); (case kB => exact locs rfl); (case c2 => exact rfl); (case c3 => exact rfl); (case c4 => exact rfl); k_whole))
local macro_rules | `(tactic| walk_at "call builtin:str.split") => `(tactic| (k_here; (with_reducible show wpAny _ _ (call (Value.builtin "str.split") [Value.str _ _, Value.str _ _]) _ _ _); (rename PySem.Txt.split _ _ = _ => hq); (refine KSpl.split1 (by k_asm) (by k_asm) (by decide) ?_ (by rw [sizeLine_eq]; omega)); (intro D' l' h' k' e' a' F' N' l1); (try k_lt l1); (rw [hq] at e'); (kspl_open e'); (simp only [strValues, List.map_cons, List.map_nil] at N' a')))
local macro_rules | `(tactic| walk_at "call builtin:str.find") => `(tactic| (k_here; (with_reducible show wpAny _ _ (call (Value.builtin "str.find") [Value.str _ _, Value.str _ _, Value.int _ _, Value.int _ _]) _ _ _); (refine find4 (by omega) (by omega) (by omega) ?_); (try rw [F4_nil _ _ _ (by omega)])))
theorem em {w : World} {p : Program} {loose : List Str} {mean : ExcName → Option Value} {mg mb : Str → Option Value} (want got word : Str) (t u : Tok)
    (hin : (Builtin.Str.occurrences want (Str.ofString "...") 0 want.length 1).isEmpty = false) (hsp : Txt.split want (Str.ofString "...") = [word, Str.ofString ""])
    (hl : want.length ≤ 100) (hg : got.length ≤ 100) (hw : word.length ≤ 100) (hw0 : 1 ≤ word.length) :
    Pur PySem.Challenge.rw_pg0249_02.row.prog w (hd2.heap_39 w.params) p loose mean mg mb 5 50 193 [.str want t, .str got u] (fun _ => True) (fun _ => .bool (Txt.startswith got word)) := by
  k_fill
  intro dp un gd cn cs a ccd cl outer A₀ base h₀ L m s Q E B F X T hk hd hu _ hret
  refine wpAny_call ?_
  have N : News h₀ L s.heap [] := News.nil
  k_dflt (refine' code_sub (binds := [(Str.ofString "want", .str want t), (Str.ofString "got", .str got u)]) ?k1 ?k2 ?k3 N ?k5 ?kA ?kF ?kK ?k6 ?k7 ?k8 ?k9 ?kB ?_ ?c2 ?c3 ?c4 ?c5; walk_at "ent"); 
  intro g' L' h' tk' hk0 _ FG' F' N' B' X' T'
  replace hk0 : ∀ b o, s.heap.get? b = some o → g'.get? b = some o := fun b o e => hk0 b o e (by intro hb; cases hb)
  (try dsimp only)
  with_reducible show wpAny _ _ _ _ _ _
  k_fold
  k_steps
  all_goals first
    | (exfalso; have := startswith_le (by assumption); omega)
    | ((have hr : Txt.startswith got word = true := by assumption); rw [hr] at hret; exact hret 0 _ _ (by k_asm) (fun b o e => Fr.keep (h₀ := g') (by assumption) b o (hk0 b o e)))
    | ((have hr : Txt.startswith got word = false := by assumption); rw [hr] at hret; exact hret 0 _ _ (by k_asm) (fun b o e => Fr.keep (h₀ := g') (by assumption) b o (hk0 b o e)))
    | (exfalso; omega)
end Mine
end
section
open PySem PySem.W PyProof.Rows
set_option Elab.async false
set_option maxRecDepth 100000
set_option maxHeartbeats 2000000
set_option pp.deepTerms true
set_option pp.proofs false
namespace Mine
def rep (x y z : Str) : Str := Txt.join z (Txt.split x y)
theorem split_sum (x y : Str) (k : Nat) (hy : (y.length == 0) = false) (hn : x.length ≤ 1000) (hk : k ≤ 1000) : ((Txt.split x y).map (·.length)).sum + (Txt.split x y).length * k ≤ 16777216 := by
  have hy' : 1 ≤ y.length := by
    have : y.length ≠ 0 := fun e => by rw [e] at hy; cases hy
    omega
  have h := split_weight x y hy'
  have a2 : (Txt.split x y).length * k ≤ 1001 * 1000 := Nat.mul_le_mul (by omega) hk
  omega
section
variable {prog : Program} {w : World} {A : Around} {E : Value → Shared → Prop} {s : Shared} {Q : Value → Shared → Prop}
theorem join_split {D : Addr} {x y X : Str} {t : Tok} {l : List (Str × Tok)} (hl : s.heap.IsList D (strValues l).toArray) (e : l.map (·.1) = Txt.split x y) (a : StrsAre (strValues l) (l.map (·.1)))
    (hy : (y.length == 0) = false) (hx : x.length ≤ 1000) (hX : X.length ≤ 1000)
    (h : ∀ t' k, Q (.str (rep x y X) t') { s with toks := k }) : wpAny (model prog w) A (call (.builtin "str.join") [.str X t, .ref D]) Q E s := by
  refine join_list hl (ys := Txt.split x y) (by rw [← e]; simpa using a) (split_sum x y _ hy hx hX) h
end
end Mine
namespace Mine
local macro_rules | `(tactic| walk_at "none at all") => `(tactic| fail)
local macro_rules | `(tactic| walk_at "ent") => `(tactic| ((case kA => exact rfl); (case kF => exact rfl); (case kK => assumption); (case k1 => k_asm); (case k2 => k_asm); (case k3 => k_asm); (case k5 => k_asm); (case k6 => k_is); (case k7 => k_is); (case k8 => ktr_room); (case kP => exact rfl); (case c5 => decide); (case kB => exact fun _ => locs rfl); (case c2 => exact rfl); (case c3 => exact rfl); (case c4 => exact rfl); k_whole))
local macro_rules | `(tactic| walk_at "call builtin:str.join") => `(tactic| (k_here; (with_reducible show wpAny _ _ (call (Value.builtin "str.join") [Value.str _ _, Value.ref _]) _ _ _); (refine join_split (by assumption) (by assumption) (by assumption) (by assumption) (by omega) (by omega) ?_); intro _ _))
local macro_rules | `(tactic| walk_at "subscriptTail Name Slice ref ref") => `(tactic| (k_here; (with_reducible show wpAny _ _ (subscriptTail _ _ (Value.ref _) (Value.ref _)) _ _ _); k_dflt (refine slice_tup (a := 2) (by k_asm) (by k_asm) (by k_mem) (by decide) (Nat.le_of_ble_eq_true rfl) (Nat.le_of_ble_eq_true rfl) ?_ (by with_unfolding_all rfl) (by intro _; with_unfolding_all rfl)); intro D' h' F' N' l1; (try k_lt l1); (try dsimp only [List.drop_succ_cons, List.drop_zero] at N')))
theorem replace2 {w : World} {p : Program} {loose : List Str} {mean : ExcName → Option Value} {mg mb : Str → Option Value} (x y1 X1 y2 X2 : Str) (t u1 v1 u2 v2 : Tok)
    (h1 : x.length ≤ 1000) (h2 : X1.length ≤ 1000) (h3 : X2.length ≤ 1000) (h4 : (rep x y1 X1).length ≤ 1000) (hy1 : (y1.length == 0) = false) (hy2 : (y2.length == 0) = false) :
    Pur PySem.Challenge.rw_pg0249_02.row.prog w (hd2.heap_39 w.params) p loose mean mg mb 5 50 200 [.str x t, .str y1 u1, .str X1 v1, .str y2 u2, .str X2 v2] (fun _ => True) (fun t => .str (rep (rep x y1 X1) y2 X2) t) := by
  k_fill
  intro dp un gd cn cs a ccd cl outer A₀ base h₀ L m s Q E B F X T hk hd hu _ hret
  refine wpAny_call ?_
  have N : News h₀ L s.heap [] := News.nil
  k_dflt (refine' code_rest (vs := [.str y1 u1, .str X1 v1, .str y2 u2, .str X2 v2]) (binds := fun D => [(Str.ofString "text", .str x t), (Str.ofString "pairs", .ref D)]) ?k1 ?k2 ?k3 N ?k5 ?kA ?kF ?kK ?k6 ?k7 ?k8 ?kP ?kB ?_ ?c2 ?c3 ?c4 ?c5; walk_at "ent")
  intro D' _ _ g' L' h' tk' hk0 l1 FG' F' N' B' X' T'
  replace hk0 : ∀ b o, s.heap.get? b = some o → g'.get? b = some o := fun b o e => hk0 b o e (by intro hb; cases hb)
  k_lt l1
  (try dsimp only)
  with_reducible show wpAny _ _ _ _ _ _
  k_fold
  k_steps
  all_goals try exact hret _ _ _ (by k_asm) (fun b o e => Fr.keep (h₀ := g') (by assumption) b o (hk0 b o e))
end Mine
end
section
open PySem PySem.W PyProof.Rows
set_option Elab.async false
set_option maxRecDepth 100000
set_option maxHeartbeats 2000000
set_option pp.deepTerms true
set_option pp.proofs false
namespace Mine
local macro_rules | `(tactic| walk_at "none at all") => `(tactic| fail)
local macro_rules | `(tactic| walk_at "none at all") => `(tactic| fail)
local macro_rules | `(tactic| walk_at "ent") => `(tactic| ((case kA => exact rfl); (case kF => exact rfl); (case kK => assumption); (case k1 => k_asm); (case k2 => k_asm); (case k3 => k_asm); (case k5 => k_asm); (case k6 => k_is); (case k7 => k_is); (case k8 => ktr_room); (case k9 => (refine' kp_binds ?kx ?ke; (case kx => k_in); (case ke => exact fun _ => rfl))); (case c5 => decide); (case kB => exact locs rfl); (case c2 => exact rfl); (case c3 => exact rfl); (case c4 => exact rfl); k_whole))
local macro_rules | `(tactic| walk_at "getMethod ref") => `(tactic| (k_here; (with_reducible show wpAny _ _ (getMethod (Value.ref _) (PySem.Str.ofString "search") _) _ _ _); k_dflt (refine' getMethod_patK ?X ?ho ?hc ?hd ?_; (case X => k_in); (case ho => k_is); (case hc => exact rfl); (case hd => exact rfl); k_whole)))
local macro_rules | `(tactic| walk_at "call builtin:re.Pattern.search") => `(tactic| (k_here; k_dflt (first
  | (refine' re_name ?X ?hp ?hc ?hd ?ht ?htd ?h6 ?h5 ?hcode ?hx ?hn ?_; (case X => k_in); (case hp => k_is); (case hc => exact rfl); (case hd => exact rfl); (case h6 => exact rfl); (case h5 => exact rfl); (case ht => k_is); (case htd => exact rfl); (case hcode => decide +kernel); (case hx => omega); (case hn => assumption); k_whole)
  | (refine' re_value ?X ?hp ?hc ?hd ?ht ?htd ?h6 ?h5 ?hcode ?hx ?hn ?_; (case X => k_in); (case hp => k_is); (case hc => exact rfl); (case hd => exact rfl); (case h6 => exact rfl); (case h5 => exact rfl); (case ht => k_is); (case htd => exact rfl); (case hcode => decide +kernel); (case hx => omega); (case hn => assumption); k_whole))))
theorem conv {w : World} {p : Program} {loose : List Str} {mean : ExcName → Option Value} {mg mb : Str → Option Value} (x : Str) (t : Tok) (v : Value) (b : Bool) (hl : x.length ≤ 1000) (hp : Plain x) :
    PurK PySem.Challenge.rw_pg0249_02.row.prog w (hd2.heap_39 w.params) p loose mean mg mb 5 50 83 [v, .str x t] [(Str.ofString "name", .bool b)] (fun _ => True) (fun _ => .str x t) := by
  k_fill
  intro dp un gd cn cs a ccd cl outer A₀ base h₀ L m s Q E B F X T hk hd hu _ hret
  refine wpAny_call ?_
  have N : News h₀ L s.heap [] := News.nil
  k_dflt (refine' code_sub (binds := [(Str.ofString "self", v), (Str.ofString "value", .str x t), (Str.ofString "name", .bool b)]) ?k1 ?k2 ?k3 N ?k5 ?kA ?kF ?kK ?k6 ?k7 ?k8 ?k9 ?kB ?_ ?c2 ?c3 ?c4 ?c5; walk_at "ent")
  intro g' L' h' tk' hk0 _ FG' F' N' B' X' T'
  replace hk0 : ∀ b o, s.heap.get? b = some o → g'.get? b = some o := fun b o e => hk0 b o e (by intro hb; cases hb)
  (try dsimp only)
  with_reducible show wpAny _ _ _ _ _ _
  k_fold
  k_steps
  all_goals try exact hret t _ _ (by k_asm) (fun b o e => Fr.keep (h₀ := g') (by assumption) b o (hk0 b o e))
end Mine
end
section
open PySem PySem.W PyProof.Rows
set_option Elab.async false
set_option maxRecDepth 100000
set_option maxHeartbeats 2000000
set_option pp.deepTerms true
set_option pp.proofs false
namespace Mine
abbrev hdrDict (tk : Tok) (hsh : Int) (l : Addr) : Obj := dictOf [⟨hsh, .str (Str.ofString "_headers") tk, .ref l⟩] 1
abbrev tab3 (C x dx l : Addr) (tk : Tok) (hsh : Int) (vs : List Value) (n : Nat) : List (Addr × Obj) := [(l, listOf vs.toArray n), (x, instObj C dx), (dx, hdrDict tk hsh l)]
local macro_rules | `(tactic| walk_at "none at all") => `(tactic| fail)
local macro_rules | `(tactic| walk_at "none at all") => `(tactic| fail)
local macro_rules | `(tactic| walk_at "none at all") => `(tactic| fail)
local macro_rules | `(tactic| walk_at "ent") => `(tactic| ((case kA => exact rfl); (case kF => exact rfl); (case kK => assumption); (case k1 => k_asm); (case k2 => k_asm); (case k3 => k_asm); (case k5 => k_asm); (case k6 => k_is); (case k7 => k_is); (case k8 => ktr_room); (case kP => exact rfl); (case c5 => decide); (case kB => exact fun _ => locs rfl); (case c2 => exact rfl); (case c3 => exact rfl); (case c4 => exact rfl); k_whole))
local macro_rules | `(tactic| walk_at "call ref") => `(tactic| (k_here; (with_reducible show wpAny _ _ (call (Value.ref 83) _ _) _ _ _); k_dflt (refine' conv _ _ _ _ ?hl ?hp _ _ _ _ _ _ _ _ _ _ _ _ _ _ _ _ _ ?B ?F ?X ?T ?kK ?kd ?ku trivial ?_; (case B => k_asm); (case F => k_asm); (case X => k_asm); (case T => k_asm); (case kK => first | exact rfl | assumption); (case kd => ktr_room); (case ku => ktr_units); (case hl => omega); (case hp => assumption); k_whole); (with_reducible rename News _ _ _ _ => N9'); intro t9 h9 tk9 F9 k9; (replace N9' := news_kept N9' k9); clear k9; (try dsimp only); (try k_fold)))
local macro_rules | `(tactic| walk_at "call builtin:list.append") => `(tactic| (k_here; (with_reducible show wpAny _ _ (call (Value.builtin _) [Value.ref _, Value.ref _]) _ _ _); k_dflt (refine' append_K ?k1 ?k2 ?k3 ?_ ?z; (case k1 => k_asm); (case k2 => k_asm); (case k3 => k_upd); (case z => (rw [sizeLine_eq]; simp only [List.size_toArray]; omega)); k_whole); intro h' F' N'; (try k_sweep)))
theorem addh {w : World} {p : Program} {loose : List Str} {mean : ExcName → Option Value} {mg mb : Str → Option Value} (dp un : Nat) (gd : Option (List Code)) (cn : Str) (cs : Scope) (a : Addr) (ccd : Value) (cl : List (Str × Addr)) (outer : List Env) (A₀ : Around) (base h₀ : Heap) (L : Addr) (m : Str → Option Value) (s : Shared) (Q E : Value → Shared → Prop)
    (x dx l : Addr) (tkd : Tok) (hsh : Int) (vs : List Value) (n : Nat) (k v : Str) (t1 t2 : Tok)
    (B : Below A₀ base outer h₀) (F : Fr h₀ L s.heap m) (X : (hd2.heap_39 w.params).In h₀) (T : Top p loose mean mg mb h₀) (hk : cs.kind = .function) (hd : dp + 20 < recursionLimit) (hu : un + 200 < cLine)
    (N : News h₀ L s.heap (tab3 182 x dx l tkd hsh vs n)) (hv : vs.length ≤ 1000) (h1 : x < l) (h2 : dx < l) (h3 : dx < x) (hk1 : k.length ≤ 1000) (hk2 : Plain k) (hv1 : v.length ≤ 1000) (hv2 : Plain v)
    (hret : ∀ T t3 t4 n' h' tk', Fr h₀ L h' m → News h₀ L h' ((T, ({ cls := .type "tuple", data := .seq #[.str k t3, .str v t4] } : Obj)) :: tab3 182 x dx l tkd hsh (vs ++ [.ref T]) n') → (∀ b o, b ≠ l → s.heap.get? b = some o → h'.get? b = some o) → Q .none { s with heap := h', toks := tk' }) :
    wpAny (model PySem.Challenge.rw_pg0249_02.row.prog w) (ktrTop dp un gd cn cs L a ccd cl outer) (call (.ref 179) [.ref x, .str k t1, .str v t2]) Q E s := by
  revert X; k_fill; intro X
  refine wpAny_call ?_
  k_dflt (refine' code_more0 (binds := fun D => [(Str.ofString "self", .ref x), (Str.ofString "_name", .str k t1), (Str.ofString "_value", .str v t2), (Str.ofString "_params", .ref D)]) ?k1 ?k2 ?k3 N ?k5 ?kA ?kF ?kK ?k6 ?k7 ?k8 ?kP ?kB ?_ ?c2 ?c3 ?c4 ?c5; walk_at "ent")
  intro D' o' l1 _ lo' hs' fs' g' L' h' tk' hk0 l2 FG' F' N' B' X' T'
  replace hk0 : ∀ b o, b ≠ l → b ≠ x → b ≠ dx → s.heap.get? b = some o → g'.get? b = some o := fun b o n1 n2 n3 e => hk0 b o e (by simp only [List.map_cons, List.map_nil, List.mem_cons, List.not_mem_nil, or_false, not_or]; exact ⟨n1, n2, n3⟩)
  k_lt l1
  k_lt l2
  replace h1 := ltN h1
  replace h2 := ltN h2
  replace h3 := ltN h3
  (try dsimp only)
  with_reducible show wpAny _ _ _ _ _ _
  k_fold
  k_steps
  (with_reducible rename Fr h₀ L _ m => kF)
  (with_reducible rename Fr g' _ _ _ => gF)
  (with_reducible rename News h₀ L _ (_ :: _) => kN)
  simp only [join_one, List.push_toArray] at kN
  have kN2 := cb_drop kN (news := (_, ({ cls := .type "tuple", data := .seq #[.str k t1, .str v _] } : Obj)) :: tab3 182 x dx l tkd hsh (vs ++ [.ref _]) (n + 1)) (by
    intro p hp
    rcases List.mem_cons.mp hp with rfl | hp
    · exact .head _
    · exact .tail _ (.tail _ (.tail _ hp)))
  refine hret _ t1 _ (n + 1) _ _ kF kN2 (fun b o nb e => ?_)
  refine keep_sub N kN2 (fun p hp hb => ?_) (fun nb2 e => gF.keep b o ?_) e
  · rcases List.mem_cons.mp hp with rfl | hp
    · exact absurd hb.symm nb
    · exact .tail _ (.tail _ hp)
  · simp only [List.map_cons, List.map_nil, List.mem_cons, List.not_mem_nil, or_false, not_or] at nb2
    exact hk0 b o nb nb2.2.1 nb2.2.2 e
end Mine
end
section
open PySem PySem.W PyProof.Rows
set_option Elab.async false
set_option maxRecDepth 100000
set_option maxHeartbeats 2000000
set_option pp.deepTerms true
set_option pp.proofs false
namespace Mine
local macro_rules | `(tactic| walk_at "none at all") => `(tactic| fail)
local macro_rules | `(tactic| walk_at "none at all") => `(tactic| fail)
local macro_rules | `(tactic| walk_at "ent") => `(tactic| ((case kA => exact rfl); (case kF => exact rfl); (case kK => assumption); (case k1 => k_asm); (case k2 => k_asm); (case k3 => k_asm); (case k5 => k_asm); (case k6 => k_is); (case k7 => k_is); (case k8 => ktr_room); (case k9 => exact BindsTo.of_eq rfl); (case kB => exact rfl); (case kD => decide +kernel); (case c2 => exact rfl); (case c3 => exact rfl); (case c4 => exact rfl); k_whole))
local macro_rules | `(tactic| walk_at "call ref") => `(tactic| (k_here; (with_reducible show wpAny _ _ (call (Value.ref 83) _ _) _ _ _); k_dflt (refine' conv _ _ _ _ ?hl ?hp _ _ _ _ _ _ _ _ _ _ _ _ _ _ _ _ _ ?B ?F ?X ?T ?kK ?kd ?ku trivial ?_; (case B => k_asm); (case F => k_asm); (case X => k_asm); (case T => k_asm); (case kK => first | exact rfl | assumption); (case kd => ktr_room); (case ku => ktr_units); (case hl => omega); (case hp => assumption); k_whole); (with_reducible rename News _ _ _ _ => N9'); intro t9 h9 tk9 F9 k9; (replace N9' := news_kept N9' k9); clear k9; (try dsimp only); (try k_fold)))
local macro_rules | `(tactic| walk_at "call builtin:str.lower") => `(tactic| (k_here; (with_reducible show wpAny _ _ (call (Value.builtin "str.lower") [Value.str _ _]) _ _ _); (refine SCL.lower (by rw [sizeLine_eq]; omega) ?_); intro _))
local macro_rules | `(tactic| walk_at "eval ListComp") => `(tactic| (k_here; k_dflt (refine LCt.ListComp_T (F₀ := by k_asm) (by with_unfolding_all rfl) (by decide) (by rfl) (by decide) (by rfl) ?_)))
local macro_rules | `(tactic| walk_at "subscriptTail") => `(tactic| (k_here; (with_reducible show wpAny _ _ (subscriptTail _ _ (Value.ref _) (Value.int _ _)) _ _ _); k_dflt (refine' item_tupleT ?t ?a ?b ?c ?d ?_; (case t => assumption); (case a => decide); (case b => decide); (case c => rfl); (case d => rfl); k_whole)))
theorem getall {w : World} {p : Program} {loose : List Str} {mean : ExcName → Option Value} {mg mb : Str → Option Value} (dp un : Nat) (gd : Option (List Code)) (cn : Str) (cs : Scope) (a : Addr) (ccd : Value) (cl : List (Str × Addr)) (outer : List Env) (A₀ : Around) (base h₀ : Heap) (L : Addr) (m : Str → Option Value) (s : Shared) (Q E : Value → Shared → Prop)
    (x dx l : Addr) (tkd : Tok) (hsh : Int) (vs : List Value) (n : Nat) (rows : List (Str × Str)) (nm : Str) (t1 : Tok)
    (B : Below A₀ base outer h₀) (F : Fr h₀ L s.heap m) (X : (hd2.heap_39 w.params).In h₀) (T : Top p loose mean mg mb h₀) (hk : cs.kind = .function) (hd : dp + 20 < recursionLimit) (hu : un + 200 < cLine)
    (N : News h₀ L s.heap (tab3 182 x dx l tkd hsh vs n)) (R : RowsAt s.heap vs rows) (hv : vs.length ≤ 1000) (h1 : x < l) (h2 : dx < l) (h3 : dx < x) (hn1 : nm.length ≤ 1000) (hn2 : (Txt.lower nm).length ≤ 1000) (hn3 : Plain (Txt.lower nm)) (hr : ∀ r ∈ rows, r.1.length ≤ 1000)
    (hret : ∀ D ys n' h' tk', Fr h₀ L h' m → News h₀ L h' ((D, listOf (List.toArray ys) n') :: tab3 182 x dx l tkd hsh vs n) → StrsAre ys ((rows.filter fun r => Txt.lower r.1 == Txt.lower nm).map (·.2)) → (∀ b o, s.heap.get? b = some o → h'.get? b = some o) → Q (.ref D) { s with heap := h', toks := tk' }) :
    wpAny (model PySem.Challenge.rw_pg0249_02.row.prog w) (ktrTop dp un gd cn cs L a ccd cl outer) (call (.ref 121) [.ref x, .str nm t1]) Q E s := by
  revert X; k_fill; intro X
  refine wpAny_call ?_
  k_dflt (refine' code_subC (binds := [(Str.ofString "self", .ref x), (Str.ofString "name", .str nm t1)]) ?k1 ?k2 ?k3 N ?k5 ?kA ?kF ?kK ?k6 ?k7 ?k8 ?k9 ?kB ?kD ?_ ?c2 ?c3 ?c4; walk_at "ent")
  intro g' L' h' tk' cells' hk0 l2 FG' F' N' Y' B' X' T'
  replace hk0 : ∀ b o, b ≠ l → b ≠ x → b ≠ dx → s.heap.get? b = some o → g'.get? b = some o := fun b o n1 n2 n3 e => hk0 b o e (by simp only [List.map_cons, List.map_nil, List.mem_cons, List.not_mem_nil, or_false, not_or]; exact ⟨n1, n2, n3⟩)
  k_lt l2
  replace h1 := ltN h1
  replace h2 := ltN h2
  replace h3 := ltN h3
  have Nsub := N
  k_cells Y'
  (try simp only [List.cons_append, List.nil_append] at N')
  (try dsimp only)
  with_reducible show wpAny _ _ _ _ _ _
  k_fold
  k_steps
  with_unfolding_all refine LCt.CompSrcT.ledger (by rfl) (by k_asm) (by k_asm) (by k_mem) (by rw [sizeLine_eq]; simp only [List.size_toArray]; omega) ?_
  intro gg
  have Rg := rows_ground R N rfl hk0
  refine restT_ind (n := vs.length) (J := fun i ys => StrsAre ys (((rows.take i).filter fun r => Txt.lower r.1 == Txt.lower nm).map (·.2))) (Or.inr ⟨_, by k_mem, rfl, _, rfl⟩) ?_ ?_ _ 0 [] (by simp) .nil
  · intro i ys hi j v I oI C oC D m₂ h tk E' hv hC hx F N off ne
    obtain ⟨T, k, xx, t, u, rfl, hrow, hT⟩ := Rg.get (by simpa using hv)
    have hT2 := hT.keeps F.keep
    have hkl : k.length ≤ 1000 := hr _ (List.mem_of_getElem? hrow)
    (try simp only [LCg.Off3, and_true] at off)
    (try dsimp only)
    k_steps
    · (with_reducible rename (_ == _) = true => hq)
      refine TurnEnd.intro (by k_asm) N (fun _ hp => hp) ?_
      rw [filt_yes hrow hq, List.map_append]
      exact strs_snoc j xx u
    · (with_reducible rename (_ == _) = false => hq)
      refine TurnEnd.intro (by k_asm) N (fun _ hp => hp) ?_
      rw [filt_no hrow hq]
      exact j
  · intro ys j
    rw [R.length, List.take_length] at j
    intro D9 h9 tk9 F9 N9 _
    (try dsimp only)
    k_steps
    have kN2 : News h₀ L h9 ((D9, listOf (List.toArray ys) ys.length) :: tab3 182 x dx l tkd hsh vs n) := by
      (with_reducible rename News h₀ L h9 _ => kN)
      exact cb_drop kN fun p hp => by
        rcases List.mem_cons.mp hp with rfl | hp
        · exact .head _
        · exact .tail _ (.tail _ hp)
    refine hret D9 ys ys.length h9 tk9 (by k_asm) kN2 j fun b o e => ?_
    refine keep_sub Nsub kN2 (fun p hp _ => .tail _ hp) (fun nb2 e => F9.keep b o ?_) e
    simp only [List.map_cons, List.map_nil, List.mem_cons, List.not_mem_nil, or_false, not_or] at nb2
    exact hk0 b o nb2.1 nb2.2.1 nb2.2.2 e
end Mine
end
section
open PySem PySem.W PyProof.Rows
set_option Elab.async false
set_option maxRecDepth 100000
set_option maxHeartbeats 2000000
set_option pp.deepTerms true
set_option pp.proofs false
namespace Mine
local macro_rules | `(tactic| walk_at "none at all") => `(tactic| fail)
local macro_rules | `(tactic| walk_at "ent") => `(tactic| ((case kA => exact rfl); (case kF => exact rfl); (case kK => assumption); (case k1 => k_asm); (case k2 => k_asm); (case k3 => k_asm); (case k5 => k_asm); (case k6 => k_is); (case k7 => k_is); (case k8 => ktr_room); (case k9 => exact BindsTo.of_eq rfl); (case kB => exact rfl); (case kD => decide +kernel); (case c2 => exact rfl); (case c3 => exact rfl); (case c4 => exact rfl); k_whole))
theorem WhlIf.both {b : Bool} {T F : Prop} (t : b = true → T) (f : b = false → F) : WhlIf b T F := by
  cases b with
  | true => exact WhlIf.yes rfl (t rfl)
  | false => exact WhlIf.no rfl (f rfl)
def bitLet (a : Int) (i : Nat) : Str := ⟨#[(Str.ofString "ab").cps.getD (Builtin.bitAnd (a.fdiv (2 ^ (0 + (i : Int)).toNat)) 1).toNat 0]⟩
def wordN (n : Nat) (a : Int) : Str := Txt.join (Str.ofString "") ((List.range n).map (bitLet a))
def wordOf (m : Int) : Str := if m < 2 then wordN 1 m else if m < 6 then wordN 2 (m - 2) else if m < 14 then wordN 3 (m - 2 - 4) else wordN 4 (m - 2 - 4 - 8)
theorem bit_ge (x : Int) : 0 ≤ Builtin.bitAnd x 1 := by rw [bitAnd_m1]; omega
theorem shift_ge (i : Nat) : 0 ≤ (0 + (i : Int)) := by omega
theorem bit_lt (x : Int) : Builtin.bitAnd x 1 < ((Str.ofString "ab").length : Int) := by
  rw [bitAnd_m1]
  have : (Str.ofString "ab").length = 2 := by decide
  omega
local macro_rules | `(tactic| walk_at "WhlIf") => `(tactic| first | (refine WhlIf.yes (decide_eq_true (by (try simp only [Int.reduceAdd, Int.reduceToNat, Int.reducePow]); omega)) ?_) | (refine WhlIf.no (decide_eq_false (by (try simp only [Int.reduceAdd, Int.reduceToNat, Int.reducePow]); omega)) ?_) | (refine WhlIf.both (fun hq => ?_) (fun hq => ?_) <;> (first | replace hq := of_decide_eq_true hq | replace hq := of_decide_eq_false hq) <;> (try simp only [Int.reduceAdd, Int.reduceToNat, Int.reducePow] at hq)))
local macro_rules | `(tactic| walk_at "eval ListComp") => `(tactic| (k_here; k_dflt (refine LCg.ListComp_U (F₀ := by k_asm) (by with_unfolding_all rfl) (by decide) (by rfl) (by decide) (by rfl) ?_)))
local macro_rules | `(tactic| walk_at "CompSrc") => `(tactic| (k_here; refine Hold.out ?_))
local macro_rules | `(tactic| walk_at "binaryOp RShift int int") => `(tactic| (k_here; (with_reducible refine rshift_int ?kb1 ?_); (case kb1 => exact shift_ge _)))
local macro_rules | `(tactic| walk_at "subscriptTail") => `(tactic| (k_here; (with_reducible show wpAny _ _ (subscriptTail _ _ (Value.str _ _) (Value.int _ _)) _ _ _); refine str_item (bit_ge _) (bit_lt _) (Nat.le_of_ble_eq_true rfl) ?_ (by with_unfolding_all rfl) (by intro _; with_unfolding_all rfl)))
local macro_rules | `(tactic| walk_at "call builtin:str.join") => `(tactic| (k_here; refine Hold.out ?_))
theorem wordN_sum (n : Nat) (a : Int) (h : n ≤ 4) : (((List.range n).map (bitLet a)).map (·.length)).sum + ((List.range n).map (bitLet a)).length * (Str.ofString "").length ≤ 16777216 := by
  have e : ((List.range n).map (bitLet a)).map (·.length) = (List.range n).map fun _ => 1 := by
    rw [List.map_map]
    rfl
  rw [e]
  have : (Str.ofString "").length = 0 := by decide
  rw [this, Nat.mul_zero]
  rcases n with _ | _ | _ | _ | _ | n
  · decide
  · decide
  · decide
  · decide
  · decide
  · omega
theorem word_4 {m : Int} (h : 8 ≤ m - 2 - 4) : wordN 4 (m - 2 - 4 - 8) = wordOf m := by
  unfold wordOf
  rw [if_neg (by omega), if_neg (by omega), if_neg (by omega)]
theorem word_3 {m : Int} (h : 4 ≤ m - 2) (h' : ¬ 8 ≤ m - 2 - 4) : wordN 3 (m - 2 - 4) = wordOf m := by
  unfold wordOf
  rw [if_neg (by omega), if_neg (by omega), if_pos (by omega)]
theorem word_2 {m : Int} (h : 2 ≤ m) (h' : ¬ 4 ≤ m - 2) : wordN 2 (m - 2) = wordOf m := by
  unfold wordOf
  rw [if_neg (by omega), if_pos (by omega)]
theorem word_1 {m : Int} (h' : ¬ 2 ≤ m) : wordN 1 m = wordOf m := by
  unfold wordOf
  rw [if_pos (by omega)]
theorem lword {w : World} {p : Program} {loose : List Str} {mean : ExcName → Option Value} {mg mb : Str → Option Value} (v : Int) (t : Tok) :
    Pur PySem.Challenge.rw_pg0249_02.row.prog w (hd2.heap_39 w.params) p loose mean mg mb 5 50 205 [.int v t] (fun _ => True) (fun t => .str (wordOf (Int.fmod v 30)) t) := by
  have h0 : 0 ≤ Int.fmod v 30 := Int.fmod_nonneg_of_pos v (by decide)
  have h9 : Int.fmod v 30 < 30 := Int.fmod_lt_of_pos v (by decide)
  have hw : wordOf (Int.fmod v 30) = wordOf (Int.fmod v 30) := rfl
  generalize hr : wordOf (Int.fmod v 30) = r
  k_fill
  intro dp un gd cn cs a ccd cl outer A₀ base h₀ L m s Q E B F X T hk hd hu _ hret
  refine wpAny_call ?_
  have N : News h₀ L s.heap [] := News.nil
  k_dflt (refine' code_subC (binds := [(Str.ofString "number", .int v t)]) ?k1 ?k2 ?k3 N ?k5 ?kA ?kF ?kK ?k6 ?k7 ?k8 ?k9 ?kB ?kD ?_ ?c2 ?c3 ?c4; walk_at "ent")
  intro g' L' h' tk' cells' hk0 _ FG' F' N' Y' B' X' T'
  replace hk0 : ∀ b o, s.heap.get? b = some o → g'.get? b = some o := fun b o e => hk0 b o e (by intro hb; cases hb)
  k_cells Y'
  (try simp only [List.cons_append, List.nil_append] at N')
  (try dsimp only)
  with_reducible show wpAny _ _ _ _ _ _
  k_fold
  k_steps
  · refine Hold.mk ?_
    (with_unfolding_all refine LCg.CompSrc.range (by rfl) (by k_asm) (by k_asm) (by assumption) (by decide) (by first | decide | rfl) (Nat.le_of_ble_eq_true rfl) ?_)
    intro gg
    refine restU_ind (n := 4) (J := fun i ys => StrsAre ys ((List.range i).map (bitLet (Int.fmod v 30 - 2 - 4 - 8)))) trivial ?_ ?_ _ 0 [] rfl .nil
    · intro i ys hi j v I oI C oC D m₂ h tk E' hv hC hx F N off ne
      obtain ⟨t9', hv9'⟩ := hv
      subst hv9'
      (try simp only [LCg.Off3, and_true] at off)
      (try dsimp only)
      k_steps
      rw [List.range_succ, List.map_append]
      refine TurnEnd.intro ?_ N (fun _ hp => hp) ?_
      · exact F
      · exact (strs_snoc j _ _)
    · intro ys j D9 h9 tk9 F9 N9 _
      (try dsimp only)
      k_steps
      refine Hold.mk ?_
      k_here
      refine join_list ⟨_, (N9 _ (.head _)).1, rfl, _, rfl⟩ j (wordN_sum _ _ (by decide)) ?_
      intro t8 k8
      (try dsimp only)
      k_steps
      (rw [show Txt.join (Str.ofString "") (List.map (bitLet (Int.fmod v 30 - 2 - 4 - 8)) (List.range 4)) = r from (show wordN 4 (Int.fmod v 30 - 2 - 4 - 8) = wordOf (Int.fmod v 30) from (word_4 (by omega))).trans hr])
      exact hret _ _ _ (by k_asm) (fun b o e => Fr.keep (h₀ := g') (by k_asm) b o (hk0 b o e))
  · refine Hold.mk ?_
    (with_unfolding_all refine LCg.CompSrc.range (by rfl) (by k_asm) (by k_asm) (by assumption) (by decide) (by first | decide | rfl) (Nat.le_of_ble_eq_true rfl) ?_)
    intro gg
    refine restU_ind (n := 3) (J := fun i ys => StrsAre ys ((List.range i).map (bitLet (Int.fmod v 30 - 2 - 4)))) trivial ?_ ?_ _ 0 [] rfl .nil
    · intro i ys hi j v I oI C oC D m₂ h tk E' hv hC hx F N off ne
      obtain ⟨t9', hv9'⟩ := hv
      subst hv9'
      (try simp only [LCg.Off3, and_true] at off)
      (try dsimp only)
      k_steps
      rw [List.range_succ, List.map_append]
      refine TurnEnd.intro ?_ N (fun _ hp => hp) ?_
      · exact F
      · exact (strs_snoc j _ _)
    · intro ys j D9 h9 tk9 F9 N9 _
      (try dsimp only)
      k_steps
      refine Hold.mk ?_
      k_here
      refine join_list ⟨_, (N9 _ (.head _)).1, rfl, _, rfl⟩ j (wordN_sum _ _ (by decide)) ?_
      intro t8 k8
      (try dsimp only)
      k_steps
      (rw [show Txt.join (Str.ofString "") (List.map (bitLet (Int.fmod v 30 - 2 - 4)) (List.range 3)) = r from (show wordN 3 (Int.fmod v 30 - 2 - 4) = wordOf (Int.fmod v 30) from (word_3 (by omega) (by omega))).trans hr])
      exact hret _ _ _ (by k_asm) (fun b o e => Fr.keep (h₀ := g') (by k_asm) b o (hk0 b o e))
  · refine Hold.mk ?_
    (with_unfolding_all refine LCg.CompSrc.range (by rfl) (by k_asm) (by k_asm) (by assumption) (by decide) (by first | decide | rfl) (Nat.le_of_ble_eq_true rfl) ?_)
    intro gg
    refine restU_ind (n := 2) (J := fun i ys => StrsAre ys ((List.range i).map (bitLet (Int.fmod v 30 - 2)))) trivial ?_ ?_ _ 0 [] rfl .nil
    · intro i ys hi j v I oI C oC D m₂ h tk E' hv hC hx F N off ne
      obtain ⟨t9', hv9'⟩ := hv
      subst hv9'
      (try simp only [LCg.Off3, and_true] at off)
      (try dsimp only)
      k_steps
      rw [List.range_succ, List.map_append]
      refine TurnEnd.intro ?_ N (fun _ hp => hp) ?_
      · exact F
      · exact (strs_snoc j _ _)
    · intro ys j D9 h9 tk9 F9 N9 _
      (try dsimp only)
      k_steps
      refine Hold.mk ?_
      k_here
      refine join_list ⟨_, (N9 _ (.head _)).1, rfl, _, rfl⟩ j (wordN_sum _ _ (by decide)) ?_
      intro t8 k8
      (try dsimp only)
      k_steps
      (rw [show Txt.join (Str.ofString "") (List.map (bitLet (Int.fmod v 30 - 2)) (List.range 2)) = r from (show wordN 2 (Int.fmod v 30 - 2) = wordOf (Int.fmod v 30) from (word_2 (by omega) (by omega))).trans hr])
      exact hret _ _ _ (by k_asm) (fun b o e => Fr.keep (h₀ := g') (by k_asm) b o (hk0 b o e))
  · refine Hold.mk ?_
    (with_unfolding_all refine LCg.CompSrc.range (by rfl) (by k_asm) (by k_asm) (by assumption) (by decide) (by first | decide | rfl) (Nat.le_of_ble_eq_true rfl) ?_)
    intro gg
    refine restU_ind (n := 1) (J := fun i ys => StrsAre ys ((List.range i).map (bitLet (Int.fmod v 30)))) trivial ?_ ?_ _ 0 [] rfl .nil
    · intro i ys hi j v I oI C oC D m₂ h tk E' hv hC hx F N off ne
      obtain ⟨t9', hv9'⟩ := hv
      subst hv9'
      (try simp only [LCg.Off3, and_true] at off)
      (try dsimp only)
      k_steps
      rw [List.range_succ, List.map_append]
      refine TurnEnd.intro ?_ N (fun _ hp => hp) ?_
      · exact F
      · exact (strs_snoc j _ _)
    · intro ys j D9 h9 tk9 F9 N9 _
      (try dsimp only)
      k_steps
      refine Hold.mk ?_
      k_here
      refine join_list ⟨_, (N9 _ (.head _)).1, rfl, _, rfl⟩ j (wordN_sum _ _ (by decide)) ?_
      intro t8 k8
      (try dsimp only)
      k_steps
      (rw [show Txt.join (Str.ofString "") (List.map (bitLet (Int.fmod v 30)) (List.range 1)) = r from (show wordN 1 (Int.fmod v 30) = wordOf (Int.fmod v 30) from (word_1 (by omega))).trans hr])
      exact hret _ _ _ (by k_asm) (fun b o e => Fr.keep (h₀ := g') (by k_asm) b o (hk0 b o e))
end Mine
end
section
open PySem PySem.W PyProof.Rows
set_option Elab.async false
set_option maxRecDepth 100000
set_option maxHeartbeats 2000000
set_option pp.deepTerms true
set_option pp.proofs false
namespace Mine
local macro_rules | `(tactic| walk_at "none at all") => `(tactic| fail)
local macro_rules | `(tactic| walk_at "none at all") => `(tactic| fail)
local macro_rules | `(tactic| walk_at "none at all") => `(tactic| fail)
local macro_rules | `(tactic| walk_at "none at all") => `(tactic| fail)
local macro_rules | `(tactic| walk_at "none at all") => `(tactic| fail)
local macro_rules | `(tactic| walk_at "ent") => `(tactic| ((case kA => exact rfl); (case kF => exact rfl); (case kK => assumption); (case k1 => k_asm); (case k2 => k_asm); (case k3 => k_asm); (case k5 => k_asm); (case k6 => k_is); (case k7 => k_is); (case k8 => ktr_room); (case k9 => exact BindsTo.of_eq rfl); (case c5 => decide); (case kB => exact locs rfl); (case c2 => exact rfl); (case c3 => exact rfl); (case c4 => exact rfl); k_whole))
theorem not_t {b : Bool} (h : (!b) = true) : b = false := by cases b <;> first | rfl | cases h
theorem not_f {b : Bool} (h : (!b) = false) : b = true := by cases b <;> first | rfl | cases h
local macro_rules | `(tactic| walk_at "exec While") => `(tactic| (k_here; k_dflt (refine whl_start 100 ?_)))
local macro_rules | `(tactic| walk_at "call ref") => `(tactic| (k_here; (with_reducible show wpAny _ _ (call (Value.ref 193) _ _) _ _ _); k_dflt (refine' em _ _ _ _ _ ?hin ?hsp ?hl ?hg ?hw ?hw0 _ _ _ _ _ _ _ _ _ _ _ _ _ _ _ _ _ ?B ?F ?X ?T ?kK ?kd ?ku trivial ?_; (case B => k_asm); (case F => k_asm); (case X => k_asm); (case T => k_asm); (case kK => first | exact rfl | assumption); (case kd => ktr_room); (case ku => ktr_units); (case hin => assumption); (case hsp => assumption); (case hl => (have : (Str.ofString "...").length = 3 := by decide); omega); (case hg => omega); (case hw => omega); (case hw0 => omega); k_whole); (with_reducible rename News _ _ _ _ => N9'); intro t9 h9 tk9 F9 k9; (replace N9' := news_kept N9' k9); clear k9; (try dsimp only); (try k_fold)))
local macro_rules | `(tactic| walk_at "WhlIf") => `(tactic| (k_here; (refine WhlIf.both (fun hq => ?_) (fun hq => ?_) <;> (first | replace hq := not_t hq | replace hq := not_f hq) <;> (try simp only [Int.reduceAdd, Int.reduceToNat, Int.reducePow] at hq) <;> (first | (exfalso; (with_reducible rename (_ ∨ _) => hst9); rcases hst9 with h | h | h | h <;> (have e : true = false := h.symm.trans (by assumption); cases e); done) | skip))))
def st (x : Str) (j : Int) : Bool := Txt.startswith (Txt.slice (x ++ x) (some j) none) x
def rootOf (x : Str) : Str := if st x 1 then Txt.slice x none (some 1) else if st x 2 then Txt.slice x none (some 2) else if st x 3 then Txt.slice x none (some 3) else Txt.slice x none (some 4)
theorem root_1 {x : Str} (h1 : st x 1 = true) : Txt.slice x none (some 1) = rootOf x := by unfold rootOf; rw [if_pos h1]
theorem root_2 {x : Str} (h1 : st x 1 = false) (h2 : st x 2 = true) : Txt.slice x none (some 2) = rootOf x := by unfold rootOf; rw [if_neg (by rw [h1]; decide), if_pos h2]
theorem root_3 {x : Str} (h1 : st x 1 = false) (h2 : st x 2 = false) (h3 : st x 3 = true) : Txt.slice x none (some 3) = rootOf x := by unfold rootOf; rw [if_neg (by rw [h1]; decide), if_neg (by rw [h2]; decide), if_pos h3]
theorem root_4 {x : Str} (h1 : st x 1 = false) (h2 : st x 2 = false) (h3 : st x 3 = false) : Txt.slice x none (some 4) = rootOf x := by unfold rootOf; rw [if_neg (by rw [h1]; decide), if_neg (by rw [h2]; decide), if_neg (by rw [h3]; decide)]
theorem lroot {w : World} {p : Program} {loose : List Str} {mean : ExcName → Option Value} {mg mb : Str → Option Value} (x : Str) (t : Tok) (h1 : 1 ≤ x.length) (h4 : x.length ≤ 4)
    (hin : (Builtin.Str.occurrences (x ++ Str.ofString "...") (Str.ofString "...") 0 (x ++ Str.ofString "...").length 1).isEmpty = false) (hsp : Txt.split (x ++ Str.ofString "...") (Str.ofString "...") = [x, Str.ofString ""])
    (hst : Txt.startswith (Txt.slice (x ++ x) (some 1) none) x = true ∨ Txt.startswith (Txt.slice (x ++ x) (some 2) none) x = true ∨ Txt.startswith (Txt.slice (x ++ x) (some 3) none) x = true ∨ Txt.startswith (Txt.slice (x ++ x) (some 4) none) x = true) :
    Pur PySem.Challenge.rw_pg0249_02.row.prog w (hd2.heap_39 w.params) p loose mean mg mb 12 100 212 [.str x t] (fun _ => True) (fun t => .str (rootOf x) t) := by
  generalize hr : rootOf x = r
  k_fill
  intro dp un gd cn cs a ccd cl outer A₀ base h₀ L m s Q E B F X T hk hd hu _ hret
  refine wpAny_call ?_
  have N : News h₀ L s.heap [] := News.nil
  k_dflt (refine' code_sub (binds := [(Str.ofString "word", .str x t)]) ?k1 ?k2 ?k3 N ?k5 ?kA ?kF ?kK ?k6 ?k7 ?k8 ?k9 ?kB ?_ ?c2 ?c3 ?c4 ?c5; walk_at "ent")
  intro g' L' h' tk' hk0 _ FG' F' N' B' X' T'
  replace hk0 : ∀ b o, s.heap.get? b = some o → g'.get? b = some o := fun b o e => hk0 b o e (by intro hb; cases hb)
  (try dsimp only)
  with_reducible show wpAny _ _ _ _ _ _
  k_fold
  k_steps
  · (rw [show Txt.slice x none (some (1 + 1 + 1 + 1)) = r from (show Txt.slice x none (some 4) = rootOf x from root_4 (by assumption) (by assumption) (by assumption)).trans hr])
    exact hret _ _ _ (by k_asm) (fun b o e => Fr.keep (h₀ := g') (by k_asm) b o (hk0 b o e))
  · (rw [show Txt.slice x none (some (1 + 1 + 1)) = r from (show Txt.slice x none (some 3) = rootOf x from root_3 (by assumption) (by assumption) (by assumption)).trans hr])
    exact hret _ _ _ (by k_asm) (fun b o e => Fr.keep (h₀ := g') (by k_asm) b o (hk0 b o e))
  · (rw [show Txt.slice x none (some (1 + 1)) = r from (show Txt.slice x none (some 2) = rootOf x from root_2 (by assumption) (by assumption)).trans hr])
    exact hret _ _ _ (by k_asm) (fun b o e => Fr.keep (h₀ := g') (by k_asm) b o (hk0 b o e))
  · (rw [show Txt.slice x none (some 1) = r from (root_1 (by assumption)).trans hr])
    exact hret _ _ _ (by k_asm) (fun b o e => Fr.keep (h₀ := g') (by k_asm) b o (hk0 b o e))
end Mine
end
section
open PySem PySem.W PyProof.Rows PyProof.V PySem.Calls
set_option Elab.async false
set_option maxRecDepth 100000
namespace Mine
section
variable {prog : Program} {w : World} {A : Around} {E : Value → Shared → Prop} {s : Shared} {env : Env} {h₀ : Heap} {x : Str} {body : List Stmt} {Q : Flow → Shared → Prop}
theorem UnrPost.mono {L : Addr} {s₁ s₂ : Shared} {I : Addr} {it : Obj} {r r' : (Str → Option Value) → List (Addr × Obj) → Prop} {f : Flow} (h : UnrPost h₀ L s₁ I it r Q f s₂) (k : ∀ m n, r m n → r' m n) : UnrPost h₀ L s₁ I it r' Q f s₂ := by
  have g : ∀ {s₂}, UnrEnd h₀ L s₁ I it r s₂ → UnrEnd h₀ L s₁ I it r' s₂ := fun ⟨h', tk, m', news', e, F, N, o, q⟩ => ⟨h', tk, m', news', e, F, N, o, k _ _ q⟩
  cases f with
  | ret v => exact h
  | brk => exact h
  | next => exact g h
  | cont => exact g h
theorem listRest_ind {I : Addr} {lp : Addr × Obj} {vs : List Value} (J : Nat → (Str → Option Value) → List (Addr × Obj) → Prop)
    (step : ∀ i v m news, vs[i]? = some v → J i m news → ∀ (it : Obj) h tk, it.cls = .type "list_iterator" → Fr h₀ env.locals h (fun y => if y = x then some v else m y) → News h₀ env.locals h ((I, it) :: news) →
      wpAny (model prog w) A (execs body env) (UnrPost h₀ env.locals { s with heap := h, toks := tk } I it (fun m' n' => lp ∈ n' ∧ J (i + 1) m' n') Q) E { s with heap := h, toks := tk })
    (fin : ∀ m news, J vs.length m news → ∀ h tk, Fr h₀ env.locals h m → News h₀ env.locals h news → Q .next { s with heap := h, toks := tk }) :
    ∀ k i m news, k + i = vs.length → J i m news → ListRest prog w A E h₀ env x body Q s I lp (vs.drop i) m news
  | 0, i, m, news, e, j => by
    have hi : i = vs.length := by omega
    subst hi
    rw [List.drop_length]
    exact ListRest.zero (fin m news j)
  | k + 1, i, m, news, e, j => by
    have hlt : i < vs.length := by omega
    rw [List.drop_eq_getElem_cons hlt]
    refine ListRest.succ fun it h tk hc F N => ?_
    refine wpAny_mono (step i _ m news (List.getElem?_eq_getElem hlt) j it h tk hc F N) (fun f s' p => ?_) fun _ _ e => e
    exact UnrPost.mono p fun m' n' q => ⟨q.1, listRest_ind J step fin k (i + 1) m' n' (by omega) q.2⟩
end
end Mine
end
section
open PySem PySem.W PyProof.Rows
set_option Elab.async false
set_option maxRecDepth 100000
set_option maxHeartbeats 8000000
set_option pp.deepTerms true
set_option pp.proofs false
namespace Mine
def lastBody : List Stmt → List Stmt
  | [] => []
  | [.FunctionDef _ _ b _ _ _ _ _ _ _] => b
  | _ :: r => lastBody r
def lastScope : List Stmt → Scope
  | [] => default
  | [.FunctionDef _ _ _ _ _ _ s _ _ _] => s
  | _ :: r => lastScope r
def lawBody : List Stmt := lastBody PySem.Challenge.pw_pg0249_02.main.body
def lawScope : Scope := lastScope PySem.Challenge.pw_pg0249_02.main.body
def nthS : List Stmt → Nat → Stmt
  | [], _ => .Pass default
  | s :: _, 0 => s
  | _ :: r, k + 1 => nthS r k
theorem frame_see {h₀ h : Heap} {L : Addr} {m : Str → Option Value} {x : Str} {v : Value} (F : Fr h₀ L h m) (e : m x = some v) : Fr h₀ L h (fun y => if y = x then some v else m y) := by
  have : (fun y => if y = x then some v else m y) = m := funext fun y => by
    by_cases hy : y = x
    · rw [if_pos hy, hy, e]
    · rw [if_neg hy]
  rw [this]
  exact F
theorem see_eq {m : Str → Option Value} {x : Str} {v : Value} (e : m x = some v) : ∃ m' : Str → Option Value, m = fun y => if y = x then some v else m' y := ⟨m, funext fun y => by
  by_cases hy : y = x
  · rw [if_pos hy, hy, e]
  · rw [if_neg hy]⟩
abbrev lawA (L fa : Addr) (cdv : Value) : Around := callerA.deeper (envOfC (Str.ofString "law") lawScope L fa cdv)
theorem st3 {w : World} {p : Program} {loose : List Str} {mean : ExcName → Option Value} {mg mb : Str → Option Value} (fa : Addr) (cdv : Value) (base h₀ : Heap) (L : Addr) (m : Str → Option Value) (s : Shared) (Q : Flow → Shared → Prop) (E : Value → Shared → Prop)
    (l : Addr) (n : Nat) (txts : List Value) (o1 o2 o3 : Obj)
    (B : Below callerA base [] h₀) (F : Fr h₀ L s.heap m) (X : (hd2.heap_39 w.params).In h₀) (T : Top p loose mean mg mb h₀)
    (N : News h₀ L s.heap [(l, listOf txts.toArray n), (L + 3, o3), (L + 2, o2), (L + 1, o1)])
    (hret : ∀ h tk x dx lh tkd hsh, Fr h₀ L h (fun y => if y = Str.ofString "table" then some (.ref x) else m y) → News h₀ L h (tab3 182 x dx lh tkd hsh [] 0 ++ [(l, listOf txts.toArray n), (L + 3, o3), (L + 2, o2), (L + 1, o1)]) → x < lh → dx < lh → dx < x → l < dx → L + 3 < dx → Q .next { s with heap := h, toks := tk }) :
    wpAny (model PySem.Challenge.rw_pg0249_02.row.prog w) (lawA L fa cdv) (exec (nthS lawBody 3) (envOfC (Str.ofString "law") lawScope L fa cdv)) Q E s := by
  revert X; k_fill; intro X
  have eS : lawScope = lawScope := rfl
  have eB : nthS lawBody 3 = nthS lawBody 3 := rfl
  (conv at eS => rhs; whnf)
  (conv at eB => rhs; whnf)
  unfold lawA
  rw [eS, eB]
  clear eS eB
  k_steps
  (with_reducible rename Fr h₀ L _ _ => F1)
  (with_reducible rename News h₀ L _ _ => N1)
  refine hret _ _ _ _ _ _ _ F1 N1 ?_ ?_ ?_ ?_ ?_
  all_goals ((repeat ((with_reducible rename _ ∧ _ => hh9); obtain ⟨_, _⟩ := hh9)); assumption)
end Mine
end
section
open PySem PySem.W PyProof.Rows
set_option Elab.async false
set_option maxRecDepth 100000
set_option maxHeartbeats 8000000
set_option pp.deepTerms true
set_option pp.proofs false
namespace Mine
local macro_rules | `(tactic| walk_at "none at all") => `(tactic| fail)
local macro_rules | `(tactic| walk_at "none at all") => `(tactic| fail)
local macro_rules | `(tactic| walk_at "none at all") => `(tactic| fail)
local macro_rules | `(tactic| walk_at "none at all") => `(tactic| fail)
local macro_rules | `(tactic| walk_at "none at all") => `(tactic| fail)
local macro_rules | `(tactic| walk_at "none at all") => `(tactic| fail)
local macro_rules | `(tactic| walk_at "none at all") => `(tactic| fail)
local macro_rules | `(tactic| walk_at "call builtin:str.upper") => `(tactic| (k_here; (with_reducible show wpAny _ _ (call (Value.builtin "str.upper") [Value.str _ _]) _ _ _); (refine SCL.upper (by omega) ?_); intro _))
local macro_rules | `(tactic| walk_at "call ref") => `(tactic| (k_here; (with_reducible show wpAny _ _ (call (Value.ref 200) _ _) _ _ _); k_dflt (refine' replace2 _ _ _ _ _ _ _ _ _ _ ?h1 ?h2 ?h3 ?h4 ?hy1 ?hy2 _ _ _ _ _ _ _ _ _ _ _ _ _ _ _ _ _ ?B ?F ?X ?T ?kK ?kd ?ku trivial ?_; (case B => k_asm); (case F => k_asm); (case X => k_asm); (case T => k_asm); (case kK => first | exact rfl | assumption); (case kd => ktr_room); (case ku => ktr_units); (case h1 => omega); (case h2 => omega); (case h3 => omega); (case h4 => assumption); (case hy1 => decide); (case hy2 => decide); k_whole); (with_reducible rename News _ _ _ _ => N9'); intro t9 h9 tk9 F9 k9; (replace N9' := news_kept N9' k9); clear k9; (try dsimp only); (try k_fold)))
local macro_rules | `(tactic| walk_at "call ref") => `(tactic| (k_here; (with_reducible show wpAny _ _ (call (Value.ref 179) _ _) _ _ _); refine Hold.out ?_))
def nmOf (W0 W1 t : Str) : Str := rep (rep t (Str.ofString "p") (Txt.upper W0)) (Str.ofString "q") W1
def rowsOf (W0 W1 : Str) (tx : List Str) : List (Str × Str) := tx.map fun t => (nmOf W0 W1 t, t)
/-- tuples of the ledger, a row each -/
inductive TupsIn (tups : List (Addr × Obj)) : List Value → List (Str × Str) → Prop
  | nil : TupsIn tups [] []
  | snoc {T : Addr} {k v : Str} {t u : Tok} {vs : List Value} {rows : List (Str × Str)} : TupsIn tups vs rows → (T, ({ cls := .type "tuple", data := .seq #[.str k t, .str v u] } : Obj)) ∈ tups → TupsIn tups (vs ++ [.ref T]) (rows ++ [(k, v)])
def TupsOk (tups : List (Addr × Obj)) : Prop := ∀ p ∈ tups, p.2.cls = .type "tuple" ∧ ∃ a, p.2.data = .seq a 0
theorem TupsIn.more {tups tups' : List (Addr × Obj)} {vs : List Value} {rows : List (Str × Str)} (h : TupsIn tups vs rows) (k : ∀ p ∈ tups, p ∈ tups') : TupsIn tups' vs rows := by
  induction h with
  | nil => exact .nil
  | snoc _ hm ih => exact .snoc ih (k _ hm)
theorem TupsIn.rows {h₀ h : Heap} {L : Addr} {tups : List (Addr × Obj)} {vs : List Value} {rows : List (Str × Str)} (x : TupsIn tups vs rows) (N : ∀ p ∈ tups, h.get? p.1 = some p.2) : RowsAt h vs rows := by
  induction x with
  | nil => exact .nil
  | snoc _ hm ih => exact ih.snoc ⟨_, N _ hm, rfl, _, rfl⟩
theorem TupsIn.length {tups : List (Addr × Obj)} {vs : List Value} {rows : List (Str × Str)} (h : TupsIn tups vs rows) : vs.length = rows.length := by
  induction h with
  | nil => rfl
  | snoc _ _ ih => simp [ih]
theorem strs_get {vs : List Value} {ns : List Str} (h : StrsAre vs ns) {i : Nat} {v : Value} (e : vs[i]? = some v) : ∃ k t, v = .str k t ∧ ns[i]? = some k := by
  induction h generalizing i with
  | nil => simp at e
  | cons n t _ ih =>
    cases i with
    | zero =>
      simp at e
      exact ⟨n, t, e.symm, rfl⟩
    | succ i => exact ih (by simpa using e)
theorem pick3 {h₀ h : Heap} {L : Addr} {a b c d : Addr × Obj} {r : List (Addr × Obj)} (N : News h₀ L h (a :: b :: c :: d :: r)) : News h₀ L h [b, c, d] := fun p hp => by
  rcases List.mem_cons.mp hp with rfl | hp
  · exact N _ (.tail _ (.head _))
  rcases List.mem_cons.mp hp with rfl | hp
  · exact N _ (.tail _ (.tail _ (.head _)))
  rcases List.mem_cons.mp hp with rfl | hp
  · exact N _ (.tail _ (.tail _ (.tail _ (.head _))))
  · cases hp
theorem rebuild {h₀ h h' : Heap} {L lh : Addr} {a c d T : Addr × Obj} {o o' : Obj} {r : List (Addr × Obj)} (N : News h₀ L h (a :: (lh, o) :: c :: d :: r)) (N' : News h₀ L h' [T, (lh, o'), c, d]) (k : ∀ b x, b ≠ lh → h.get? b = some x → h'.get? b = some x) (off : ∀ p ∈ a :: r, p.1 ≠ lh) :
    News h₀ L h' (a :: (lh, o') :: c :: d :: T :: r) := fun p hp => by
  rcases List.mem_cons.mp hp with rfl | hp
  · exact ⟨k _ _ (off _ (.head _)) (N _ (.head _)).1, (N _ (.head _)).2⟩
  rcases List.mem_cons.mp hp with rfl | hp
  · exact N' _ (.tail _ (.head _))
  rcases List.mem_cons.mp hp with rfl | hp
  · exact N' _ (.tail _ (.tail _ (.head _)))
  rcases List.mem_cons.mp hp with rfl | hp
  · exact N' _ (.tail _ (.tail _ (.tail _ (.head _))))
  rcases List.mem_cons.mp hp with rfl | hp
  · exact N' _ (.head _)
  · have z := N p (.tail _ (.tail _ (.tail _ (.tail _ hp))))
    exact ⟨k _ _ (off _ (.tail _ hp)) z.1, z.2⟩
theorem sub_perm {a b c d e f g h T : Addr × Obj} {r : List (Addr × Obj)} : ∀ p ∈ a :: b :: c :: d :: e :: f :: g :: h :: T :: r, p ∈ a :: b :: c :: d :: T :: e :: f :: g :: h :: r := by
  intro p hp
  simp only [List.mem_cons] at hp ⊢
  rcases hp with h | h | h | h | h | h | h | h | h | h <;> simp [h]
theorem st4 {w : World} {p : Program} {loose : List Str} {mean : ExcName → Option Value} {mg mb : Str → Option Value} (fa : Addr) (cdv : Value) (base h₀ : Heap) (L : Addr) (m : Str → Option Value) (s : Shared) (Q : Flow → Shared → Prop) (E : Value → Shared → Prop)
    (x dx lh l : Addr) (tkd : Tok) (hsh : Int) (n : Nat) (txts : List Value) (tx : List Str) (o1 o2 o3 : Obj) (W0 W1 : Str) (t0 t1 : Tok)
    (B : Below callerA base [] h₀) (F : Fr h₀ L s.heap m) (X : (hd2.heap_39 w.params).In h₀) (T : Top p loose mean mg mb h₀)
    (N : News h₀ L s.heap (tab3 182 x dx lh tkd hsh [] 0 ++ [(l, listOf txts.toArray n), (L + 3, o3), (L + 2, o2), (L + 1, o1)]))
    (d1 : o1.data = .cell (some (.str W0 t0))) (d2 : o2.data = .cell (some (.str W1 t1))) (hm1 : m (Str.ofString "texts") = some (.ref l)) (hm2 : m (Str.ofString "table") = some (.ref x))
    (q1 : x < lh) (q2 : dx < lh) (q3 : dx < x) (q4 : l < dx) (q5 : L + 3 < dx)
    (hS : StrsAre txts tx) (hn : tx.length ≤ 100) (hW0 : W0.length ≤ 100) (hW1 : W1.length ≤ 100)
    (htx : ∀ t ∈ tx, t.length ≤ 100 ∧ Plain t ∧ (rep t (Str.ofString "p") (Txt.upper W0)).length ≤ 1000 ∧ (nmOf W0 W1 t).length ≤ 1000 ∧ Plain (nmOf W0 W1 t))
    (hE : PassesOwn (model PySem.Challenge.rw_pg0249_02.row.prog w) (lawA L fa cdv) (envOfC (Str.ofString "law") lawScope L fa cdv) E)
    (hret : ∀ h tk m' vs n' tups, m' (Str.ofString "texts") = some (.ref l) → m' (Str.ofString "table") = some (.ref x) → TupsIn tups vs (rowsOf W0 W1 tx) → TupsOk tups → Fr h₀ L h m' → News h₀ L h (tab3 182 x dx lh tkd hsh vs n' ++ ((l, listOf txts.toArray n) :: (L + 3, o3) :: (L + 2, o2) :: (L + 1, o1) :: tups)) → Q .next { s with heap := h, toks := tk }) :
    wpAny (model PySem.Challenge.rw_pg0249_02.row.prog w) (lawA L fa cdv) (exec (nthS lawBody 4) (envOfC (Str.ofString "law") lawScope L fa cdv)) Q E s := by
  revert X; k_fill; intro X
  have eS : lawScope = lawScope := rfl
  have eB : nthS lawBody 4 = nthS lawBody 4 := rfl
  (conv at eS => rhs; whnf)
  (conv at eB => rhs; whnf)
  unfold lawA at hE ⊢
  rw [eS] at hE ⊢
  rw [eB]
  clear eS eB
  obtain ⟨m, rfl⟩ := see_eq hm1
  (with_unfolding_all refine' For_invVF (hE := hE) F ?k1 ?k2 ?_; (case k1 => exact rfl); (case k2 => exact rfl); k_whole)
  walk1
  (with_unfolding_all refine iter_listUnr (lo := listOf txts.toArray n) (vs := txts) (by rfl) F N (by k_mem) (by rfl) (by rfl) ?_)
  intro I hI
  clear F N
  refine listRest_ind (J := fun i m' news => ∃ vs n' tups, news = tab3 182 x dx lh tkd hsh vs n' ++ ((l, listOf txts.toArray n) :: (L + 3, o3) :: (L + 2, o2) :: (L + 1, o1) :: tups) ∧ TupsIn tups vs (rowsOf W0 W1 (tx.take i)) ∧ TupsOk tups ∧ m' (Str.ofString "texts") = some (.ref l) ∧ m' (Str.ofString "table") = some (.ref x)) ?_ ?_ txts.length 0 _ _ rfl ⟨[], 0, [], rfl, .nil, (fun _ h => (nomatch h)), hm1, hm2⟩
  · intro i v m' news hv j it h tk hc F N
    obtain ⟨vs, n', tups, rfl, jt, jc, jm1, jm2⟩ := j
    obtain ⟨t, tt, rfl, ht⟩ := strs_get hS hv
    obtain ⟨b1, b2, b3, b4, b5⟩ := htx t (List.mem_of_getElem? ht)
    have hi : i < tx.length := by
      rcases Nat.lt_or_ge i tx.length with h' | h'
      · exact h'
      · rw [List.getElem?_eq_none h'] at ht; cases ht
    have hvl : vs.length ≤ 1000 := by rw [jt.length]; simp [rowsOf]; omega
    obtain ⟨m'', rfl⟩ := see_eq jm2
    (try simp only [List.cons_append, List.nil_append] at N)
    k_steps
    refine Hold.mk ?_
    (with_reducible rename Fr _ _ _ _ => F1)
    (with_reducible rename News _ _ _ _ => N1)
    replace F1 : Fr h₀ L _ _ := F1
    replace N1 : News h₀ L _ _ := N1
    k_dflt (refine' addh _ _ _ _ _ _ _ _ _ _ _ _ _ _ _ _ _ x dx lh tkd hsh vs n' (nmOf W0 W1 t) t _ _ B F1 X T ?kK ?kd ?ku (pick3 N1) hvl q1 q2 q3 b4 b5 (by omega) b2 ?_; (case kK => first | exact rfl | assumption); (case kd => ktr_room); (case ku => ktr_units); k_whole)
    intro T1 t3 t4 n2 h2 tk2 F2 N2 k2
    have q6 : ∀ p ∈ (I, it) :: (l, listOf txts.toArray n) :: (L + 3, o3) :: (L + 2, o2) :: (L + 1, o1) :: tups, p.1 ≠ lh := by
      intro p hp ee
      rcases List.mem_cons.mp hp with rfl | hp
      · exact absurd (ltN (hI _ (.head _))) (by have e' : I = lh := ee; rw [e']; exact Nat.lt_irrefl _)
      rcases List.mem_cons.mp hp with rfl | hp
      · exact absurd (Nat.lt_trans (ltN q4) (ltN q2)) (by have e' : l = lh := ee; rw [e']; exact Nat.lt_irrefl _)
      have q7 := Nat.lt_trans (ltN q5) (ltN q2)
      rcases List.mem_cons.mp hp with rfl | hp
      · exact absurd q7 (by have e' : L + 3 = lh := ee; rw [e']; exact Nat.lt_irrefl _)
      rcases List.mem_cons.mp hp with rfl | hp
      · exact absurd (Nat.lt_trans (Nat.lt_succ_self (L + 2)) q7) (by have e' : L + 2 = lh := ee; rw [e']; exact Nat.lt_irrefl _)
      rcases List.mem_cons.mp hp with rfl | hp
      · exact absurd (Nat.lt_trans (Nat.lt_succ_self (L + 1)) (Nat.lt_trans (Nat.lt_succ_self (L + 2)) q7)) (by have e' : L + 1 = lh := ee; rw [e']; exact Nat.lt_irrefl _)
      · have z := (N1 p (.tail _ (.tail _ (.tail _ (.tail _ (.tail _ (.tail _ (.tail _ (.tail _ hp))))))))).1
        rw [ee, (N1 _ (.tail _ (.head _))).1] at z
        have c := (jc p hp).1
        rw [← Option.some.inj z] at c
        exact absurd (Value.type.inj c) (by decide)
    have N3 := rebuild N1 N2 k2 q6
    clear N2 k2
    k_steps
    refine UnrEnd.intro F2 N3 (tab3 182 x dx lh tkd hsh (vs ++ [.ref T1]) n2 ++ ((l, listOf txts.toArray n) :: (L + 3, o3) :: (L + 2, o2) :: (L + 1, o1) :: (T1, ({ cls := .type "tuple", data := .seq #[.str (nmOf W0 W1 t) t3, .str t t4] } : Obj)) :: tups)) ?_ ?_ ⟨?_, _, _, _, rfl, ?_, ?_, ?_, ?_⟩
    · exact sub_perm
    · intro p hp ee
      have c9 : ∀ q ∈ (T1, ({ cls := .type "tuple", data := .seq #[.str (nmOf W0 W1 t) t3, .str t t4] } : Obj)) :: tups, q.1 ≠ I := by
        intro q hq eq
        have z := (N3 q (by
          rcases List.mem_cons.mp hq with rfl | hq
          · exact .tail _ (.tail _ (.tail _ (.tail _ (.head _))))
          · exact .tail _ (.tail _ (.tail _ (.tail _ (.tail _ (.tail _ (.tail _ (.tail _ (.tail _ hq)))))))))).1
        rw [eq, (N3 _ (.head _)).1] at z
        have c : q.2.cls = .type "tuple" := by
          rcases List.mem_cons.mp hq with rfl | hq
          · rfl
          · exact (jc q hq).1
        rw [← Option.some.inj z, hc] at c
        exact absurd (Value.type.inj c) (by decide)
      have c8 : ∀ q ∈ tab3 182 x dx lh tkd hsh [] 0 ++ [(l, listOf txts.toArray n), (L + 3, o3), (L + 2, o2), (L + 1, o1)], q.1 ≠ I := fun q hq => Nat.ne_of_lt (hI q hq)
      rcases List.mem_cons.mp hp with rfl | hp
      · exact c8 _ (.head _) ee
      rcases List.mem_cons.mp hp with rfl | hp
      · exact c8 _ (.tail _ (.head _)) ee
      rcases List.mem_cons.mp hp with rfl | hp
      · exact c8 _ (.tail _ (.tail _ (.head _))) ee
      rcases List.mem_cons.mp hp with rfl | hp
      · exact c8 _ (.tail _ (.tail _ (.tail _ (.head _)))) ee
      rcases List.mem_cons.mp hp with rfl | hp
      · exact c8 _ (.tail _ (.tail _ (.tail _ (.tail _ (.head _))))) ee
      rcases List.mem_cons.mp hp with rfl | hp
      · exact c8 _ (.tail _ (.tail _ (.tail _ (.tail _ (.tail _ (.head _)))))) ee
      rcases List.mem_cons.mp hp with rfl | hp
      · exact c8 _ (.tail _ (.tail _ (.tail _ (.tail _ (.tail _ (.tail _ (.head _))))))) ee
      · exact c9 p hp ee
    · exact .tail _ (.tail _ (.tail _ (.head _)))
    · have er : rowsOf W0 W1 (tx.take (i + 1)) = rowsOf W0 W1 (tx.take i) ++ [(nmOf W0 W1 t, t)] := by
        rw [List.take_add_one, ht]
        simp [rowsOf]
      rw [er]
      exact .snoc (jt.more fun _ h => .tail _ h) (.head _)
    · intro q hq
      rcases List.mem_cons.mp hq with rfl | hq
      · exact ⟨rfl, _, rfl⟩
      · exact jc q hq
    · exact (if_neg (by decide)).trans jm1
    · exact (if_neg (by decide)).trans jm2
  · intro m' news j h tk F N
    obtain ⟨vs, n', tups, rfl, jt, jc, jm1, jm2⟩ := j
    rw [hS.length, List.take_length] at jt
    exact hret h tk m' vs n' tups jm1 jm2 jt jc F N
end Mine
end
section
open PySem PySem.W PyProof.Rows
set_option Elab.async false
set_option maxRecDepth 100000
set_option maxHeartbeats 8000000
set_option pp.deepTerms true
set_option pp.proofs false
namespace Mine
/-- what is asked of a word -/
structure WordOk (x : Str) : Prop where
  h1 : 1 ≤ x.length
  h4 : x.length ≤ 4
  hin : (Builtin.Str.occurrences (x ++ Str.ofString "...") (Str.ofString "...") 0 (x ++ Str.ofString "...").length 1).isEmpty = false
  hsp : Txt.split (x ++ Str.ofString "...") (Str.ofString "...") = [x, Str.ofString ""]
  hst : Txt.startswith (Txt.slice (x ++ x) (some 1) none) x = true ∨ Txt.startswith (Txt.slice (x ++ x) (some 2) none) x = true ∨ Txt.startswith (Txt.slice (x ++ x) (some 3) none) x = true ∨ Txt.startswith (Txt.slice (x ++ x) (some 4) none) x = true
theorem lroot' {w : World} {p : Program} {loose : List Str} {mean : ExcName → Option Value} {mg mb : Str → Option Value} (x : Str) (t : Tok) (g : WordOk x) :
    Pur PySem.Challenge.rw_pg0249_02.row.prog w (hd2.heap_39 w.params) p loose mean mg mb 12 100 212 [.str x t] (fun _ => True) (fun t => .str (rootOf x) t) :=
  lroot x t g.h1 g.h4 g.hin g.hsp g.hst
local macro_rules | `(tactic| walk_at "call ref") => `(tactic| (k_here; (with_reducible show wpAny _ _ (call (Value.ref 212) _ _) _ _ _); k_dflt (refine' lroot' _ _ ?g _ _ _ _ _ _ _ _ _ _ _ _ _ _ _ _ _ ?B ?F ?X ?T ?kK ?kd ?ku trivial ?_; (case B => k_asm); (case F => k_asm); (case X => k_asm); (case T => k_asm); (case kK => first | exact rfl | assumption); (case kd => ktr_room); (case ku => ktr_units); (case g => assumption); k_whole); (with_reducible rename News _ _ _ _ => N9'); intro t9 h9 tk9 F9 k9; (replace N9' := news_kept N9' k9); clear k9; (try dsimp only); (try k_fold)))
theorem st5 {w : World} {p : Program} {loose : List Str} {mean : ExcName → Option Value} {mg mb : Str → Option Value} (fa : Addr) (cdv : Value) (base h₀ : Heap) (L : Addr) (m : Str → Option Value) (s : Shared) (Q : Flow → Shared → Prop) (E : Value → Shared → Prop)
    (news : List (Addr × Obj)) (o1 o2 o3 : Obj) (W0 W1 : Str) (t0 t1 : Tok)
    (B : Below callerA base [] h₀) (F : Fr h₀ L s.heap m) (X : (hd2.heap_39 w.params).In h₀) (T : Top p loose mean mg mb h₀)
    (N : News h₀ L s.heap ((L + 3, o3) :: (L + 2, o2) :: (L + 1, o1) :: news))
    (d1 : o1.data = .cell (some (.str W0 t0))) (d2 : o2.data = .cell (some (.str W1 t1))) (g0 : WordOk W0) (g1 : WordOk W1)
    (hret : ∀ h tk, Fr h₀ L h (fun y => if y = Str.ofString "alike" then some (.bool (rootOf W0 == rootOf W1)) else m y) → News h₀ L h ((L + 3, o3) :: (L + 2, o2) :: (L + 1, o1) :: news) → Q .next { s with heap := h, toks := tk }) :
    wpAny (model PySem.Challenge.rw_pg0249_02.row.prog w) (lawA L fa cdv) (exec (nthS lawBody 5) (envOfC (Str.ofString "law") lawScope L fa cdv)) Q E s := by
  revert X; k_fill; intro X
  have eS : lawScope = lawScope := rfl
  have eB : nthS lawBody 5 = nthS lawBody 5 := rfl
  (conv at eS => rhs; whnf)
  (conv at eB => rhs; whnf)
  unfold lawA
  rw [eS, eB]
  clear eS eB
  k_steps
  (with_reducible rename Fr _ _ _ _ => F1)
  (with_reducible rename News _ _ _ _ => N1)
  exact hret _ _ F1 N1
end Mine
end
section
open PySem PySem.W PyProof.Rows
set_option Elab.async false
set_option maxRecDepth 100000
set_option maxHeartbeats 8000000
set_option pp.deepTerms true
set_option pp.proofs false
namespace Mine
local macro_rules | `(tactic| walk_at "exec Assign cons ListComp") => `(tactic| (k_here; k_dflt (refine LCg.Assign_ListComp_U (F₀ := by k_asm) (by rfl) (by with_unfolding_all rfl) (by with_unfolding_all rfl) (by decide) (by rfl) (by decide) (by rfl) (by rfl) (by rfl) ?_)))
local macro_rules | `(tactic| walk_at "CompSrc") => `(tactic| (k_here; refine Hold.out ?_))
theorem ints_snoc {ys : List Value} {zs : List Int} (h : IntsAre ys zs) (z : Int) (t : Tok) : IntsAre (ys ++ [.int z t]) (zs ++ [z]) := by
  induction h with
  | nil => exact .cons _ _ .nil
  | cons y t _ ih => exact .cons y t ih
theorem off1' {D : Addr} : ∀ {l : List (Addr × Obj)}, LCg.Off1 D l → ∀ p ∈ l, p.1 ≠ D
  | [], _, _, h => nomatch h
  | _ :: _, x, p, h => by
    rcases List.mem_cons.mp h with rfl | h
    · exact x.1
    · exact off1' x.2 p h
def szOf (W0 W1 t : Str) : Int := Txt.count t (Str.ofString "p") * (W0.length : Int) + Txt.count t (Str.ofString "q") * (W1.length : Int)
theorem st6 {w : World} {p : Program} {loose : List Str} {mean : ExcName → Option Value} {mg mb : Str → Option Value} (fa : Addr) (cdv : Value) (base h₀ : Heap) (L : Addr) (m : Str → Option Value) (s : Shared) (Q : Flow → Shared → Prop) (E : Value → Shared → Prop)
    (l : Addr) (n : Nat) (txts : List Value) (tx : List Str) (news : List (Addr × Obj)) (o1 o2 o3 : Obj) (W0 W1 : Str) (t0 t1 : Tok)
    (B : Below callerA base [] h₀) (F : Fr h₀ L s.heap m) (X : (hd2.heap_39 w.params).In h₀) (T : Top p loose mean mg mb h₀)
    (N : News h₀ L s.heap ((l, listOf txts.toArray n) :: (L + 3, o3) :: (L + 2, o2) :: (L + 1, o1) :: news))
    (d1 : o1.data = .cell (some (.str W0 t0))) (d2 : o2.data = .cell (some (.str W1 t1))) (hm1 : m (Str.ofString "texts") = some (.ref l))
    (hS : StrsAre txts tx) (hn : tx.length ≤ 100) (hW0 : W0.length ≤ 100) (hW1 : W1.length ≤ 100) (htx : ∀ t ∈ tx, t.length ≤ 100)
    (hret : ∀ h tk D zs, IntsAre zs (tx.map (szOf W0 W1)) → (∀ p ∈ (l, listOf txts.toArray n) :: (L + 3, o3) :: (L + 2, o2) :: (L + 1, o1) :: news, p.1 ≠ D) → Fr h₀ L h (fun y => if y = Str.ofString "sizes" then some (.ref D) else m y) → News h₀ L h ((D, listOf zs.toArray zs.length) :: (l, listOf txts.toArray n) :: (L + 3, o3) :: (L + 2, o2) :: (L + 1, o1) :: news) → Q .next { s with heap := h, toks := tk }) :
    wpAny (model PySem.Challenge.rw_pg0249_02.row.prog w) (lawA L fa cdv) (exec (nthS lawBody 6) (envOfC (Str.ofString "law") lawScope L fa cdv)) Q E s := by
  revert X; k_fill; intro X
  have eS : lawScope = lawScope := rfl
  have eB : nthS lawBody 6 = nthS lawBody 6 := rfl
  (conv at eS => rhs; whnf)
  (conv at eB => rhs; whnf)
  unfold lawA
  rw [eS, eB]
  clear eS eB
  obtain ⟨m, rfl⟩ := see_eq hm1
  k_steps
  refine Hold.mk ?_
  with_unfolding_all refine LCg.CompSrc.ledger (by rfl) (by k_asm) (by k_asm) (by k_mem) (by rw [sizeLine_eq]; simp only [List.size_toArray]; rw [hS.length]; omega) ?_
  intro gg
  refine restU_ind (n := txts.length) (J := fun i ys => IntsAre ys ((tx.take i).map (szOf W0 W1))) (Or.inr ⟨_, by k_mem, rfl, _, rfl⟩) ?_ ?_ _ 0 [] (by simp) .nil
  · intro i ys hi j v I oI C oC D m₂ h tk E' hv hC hx F N off ne
    obtain ⟨t, tt, rfl, ht⟩ := strs_get hS (by simpa using hv)
    have b1 := htx t (List.mem_of_getElem? ht)
    (try dsimp only)
    k_steps
    refine TurnEnd.intro (by k_asm) N (fun _ hp => hp) ?_
    have er : (tx.take (i + 1)).map (szOf W0 W1) = (tx.take i).map (szOf W0 W1) ++ [szOf W0 W1 t] := by
      rw [List.take_add_one, ht]
      simp
    rw [er]
    exact ints_snoc j _ _
  · intro ys j D9 h9 tk9 F9 N9 off
    (try dsimp only)
    k_steps
    rw [hS.length, List.take_length] at j
    exact hret _ _ _ _ j (off1' off) F9 N9
end Mine
end
section
open PySem PySem.W PyProof.Rows PyProof.V PySem.Calls
set_option Elab.async false
set_option maxRecDepth 100000
namespace Mine
theorem AllObj.mono : ∀ {ws : List (Addr × String)} {A B : List (Addr × Obj) → Prop}, AllObj ws A → (∀ its, A its → B its) → AllObj ws B
  | [], _, _, h, k => k _ h
  | _ :: _, _, _, h, k => fun o ho => AllObj.mono (h o ho) fun its q => k _ q
section
variable {prog : Program} {w : World} {A : Around} {E : Value → Shared → Prop} {s : Shared} {env : Env} {h₀ : Heap} {target : PySem.Expr} {body : List Stmt} {Q : Flow → Shared → Prop}
theorem UnrPostW.mono {L : Addr} {s₁ s₂ : Shared} {its : List (Addr × Obj)} {r r' : (Str → Option Value) → List (Addr × Obj) → Prop} {f : Flow} (h : UnrPostW h₀ L s₁ its r Q f s₂) (k : ∀ m n, r m n → r' m n) : UnrPostW h₀ L s₁ its r' Q f s₂ := by
  have g : ∀ {s₂}, UnrEndW h₀ L s₁ its r s₂ → UnrEndW h₀ L s₁ its r' s₂ := fun ⟨h', tk, m', news', e, F, N, o, q⟩ => ⟨h', tk, m', news', e, F, N, o, k _ _ q⟩
  cases f with
  | ret v => exact h
  | brk => exact h
  | next => exact g h
  | cont => exact g h
theorem zipRest_ind {ws : List (Addr × String)} {keep : List (Addr × Obj)} {xs ys : List Value} (hl : xs.length = ys.length) (J : Nat → (Str → Option Value) → List (Addr × Obj) → Prop)
    (step : ∀ i v₁ v₂ m news, xs[i]? = some v₁ → ys[i]? = some v₂ → J i m news → ∀ T h tk, IsTup h T #[v₁, v₂] → Fr h₀ env.locals h m → AllObj ws (fun its => News h₀ env.locals h (its ++ news) →
      wpAny (model prog w) A (assign target env (.ref T)) (fun _ s₂ => wpAny (model prog w) A (execs body env) (UnrPostW h₀ env.locals { s with heap := h, toks := tk } its (fun m' n' => SubL keep n' ∧ J (i + 1) m' n') Q) E s₂) E { s with heap := h, toks := tk }))
    (fin : ∀ m news, J xs.length m news → ∀ h tk, Fr h₀ env.locals h m → News h₀ env.locals h news → Q .next { s with heap := h, toks := tk }) :
    ∀ k i m news, k + i = xs.length → J i m news → ItemsRest prog w A E h₀ env target body Q s ws keep (zipItems (xs.drop i) (ys.drop i)) m news
  | 0, i, m, news, e, j => by
    have hi : i = xs.length := by omega
    subst hi
    rw [List.drop_length]
    exact ItemsRest.zero (fin m news j)
  | k + 1, i, m, news, e, j => by
    have hlt : i < xs.length := by omega
    have hlt2 : i < ys.length := by omega
    rw [List.drop_eq_getElem_cons hlt, List.drop_eq_getElem_cons hlt2]
    refine ItemsRest.pair fun T t h tk hT F => AllObj.mono (step i _ _ m news (List.getElem?_eq_getElem hlt) (List.getElem?_eq_getElem hlt2) j T h tk hT F) fun its g N => ?_
    refine wpAny_mono (g N) (fun _ s₂ q => wpAny_mono q (fun f s' p => ?_) fun _ _ e => e) fun _ _ e => e
    exact UnrPostW.mono p fun m' n' q => ⟨q.1, zipRest_ind hl J step fin k (i + 1) m' n' (by omega) q.2⟩
end
end Mine
end
section
open PySem PySem.W PyProof.Rows PyProof.V PySem.Calls PySem.Spec PySem.SeqAt
set_option Elab.async false
set_option maxRecDepth 100000
namespace Mine
theorem readsAll_strs {h : Heap} {vs : List Value} {ns : List Str} (i : StrsAre vs ns) : ReadsAll h vs (ns.map PyData.str) [] := by
  induction i with
  | nil => exact .nil
  | cons k t _ ih =>
    have := ReadsAll.cons (Reads.str (h := h) k t) ih
    simpa using this
theorem reads_strs {h : Heap} {a : Addr} {vs : List Value} {ns : List Str} (hl : h.IsList a vs.toArray) (hi : StrsAre vs ns) : Reads h (.ref a) (.list (ns.map PyData.str)) [a] := by
  obtain ⟨o, ho, hc, n, hd⟩ := hl
  exact Reads.list ho hc hd (by simpa using readsAll_strs hi)
theorem canLay_strs (ns : List Str) (ok : ∀ n ∈ ns, PyData.strOk n = true) : PyData.canLayAll0 (ns.map PyData.str) = true := by
  induction ns with
  | nil => simp [PyData.canLayAll0]
  | cons n r ih => simp [PyData.canLayAll0, PyData.canLay0, ih fun m hm => ok m (.tail _ hm), ok n (.head _)]
theorem depth_strs (ns : List Str) : PyData.depthAll (ns.map PyData.str) ≤ 1 := by
  induction ns with
  | nil => simp [PyData.depthAll]
  | cons n r ih =>
    simp only [List.map_cons, PyData.depthAll, PyData.depth]
    omega
theorem shaped_strs (ns : List Str) (ok : ∀ n ∈ ns, PyData.strOk n = true) : shaped (.list (ns.map PyData.str)) = true := by
  have h1 := depth_strs ns
  have h2 : PyData.depth (.list (ns.map PyData.str)) ≤ 64 := by simp only [PyData.depth]; omega
  show (PyData.canLay0 (.list (ns.map PyData.str)) && decide (PyData.depth (.list (ns.map PyData.str)) ≤ 64)) = true
  rw [Bool.and_eq_true]
  exact ⟨by simp only [PyData.canLay0]; exact canLay_strs ns ok, decide_eq_true h2⟩
theorem noMix_strs (ns ms : List Str) : noMixAll (ns.map PyData.str) (ms.map PyData.str) = true := by
  induction ns generalizing ms with
  | nil => cases ms <;> simp [noMixAll]
  | cons _ r ih => cases ms <;> simp [noMixAll, noMix, ih]
theorem same_strs (ns : List Str) : PySem.Spec.sameAll (ns.map PyData.str) (ns.map PyData.str) = true := by
  induction ns with
  | nil => simp [PySem.Spec.sameAll]
  | cons n r ih => simp [PySem.Spec.sameAll, PySem.Spec.same, ih]
section
variable {prog : Program} {w : World} {A : Around} {E : Value → Shared → Prop} {s : Shared}
theorem ne_strs {a b : Addr} {vs us : List Value} {ns ms : List Str} {Q : Value → Shared → Prop} (hl : s.heap.IsList a vs.toArray) (hi : StrsAre vs ns) (hl' : s.heap.IsList b us.toArray) (hi' : StrsAre us ms) (e : ns = ms) (ok : ∀ n ∈ ns, PyData.strOk n = true) (hu : A.units + 64 < cLine)
    (h : Q (.bool false) s) : wpAny (model prog w) A (compareOp .NotEq (.ref a) (.ref b)) Q E s := by
  subst e
  exact ne_dataH_same (reads_strs hl hi) (reads_strs hl' hi') (shaped_strs ns ok) (shaped_strs ns ok) hu (by simp only [noMix]; exact noMix_strs ns ns) (by simp only [PySem.Spec.same]; rw [same_strs]; exact h)
end
end Mine
end
section
open PySem PySem.W PyProof.Rows
set_option Elab.async false
set_option maxRecDepth 100000
set_option maxHeartbeats 8000000
set_option pp.deepTerms true
set_option pp.proofs false
namespace Mine
local macro_rules | `(tactic| walk_at "none at all") => `(tactic| fail)
local macro_rules | `(tactic| walk_at "none at all") => `(tactic| fail)
local macro_rules | `(tactic| walk_at "none at all") => `(tactic| fail)
local macro_rules | `(tactic| walk_at "none at all") => `(tactic| fail)
local macro_rules | `(tactic| walk_at "eval ListComp") => `(tactic| (k_here; k_dflt (refine ListComp_Z (F₀ := by k_asm) (by with_unfolding_all rfl) (by decide) (by rfl) (by decide) (by rfl) (by rfl) (by decide) ?_)))
theorem updF_mk {d : Addr} {o : Obj} {pre post : List (Addr × Obj)} (a : ∀ p ∈ pre, p.1 ≠ d) (c : ∀ p ∈ post, p.1 ≠ d) : UpdF d o (pre ++ (d, o) :: post) (fun o' => pre ++ (d, o') :: post) := by
  induction pre with
  | nil => exact .head c
  | cons p r ih => exact .tail (a p (.head _)) (ih fun q hq => a q (.tail _ hq))
local macro_rules | `(tactic| walk_at "storeName") => `(tactic| (k_here; k_dflt (refine' storeX_C ?F ?N ?c ?U ?d ?_ ?a ?b; (case a => rfl); (case b => rfl); (case F => k_asm); (case N => k_asm); (case c => rfl); (case U => assumption); (case d => k_asm); k_whole); intro h' o' F' N' d'; (try dsimp only at N')))
local macro_rules | `(tactic| walk_at "compareOp NotEq ref ref") => `(tactic| (k_here; refine Hold.out ?_))
theorem three {h₀ h : Heap} {L : Addr} {a b c : Addr × Obj} {l : List (Addr × Obj)} (N : News h₀ L h l) (m1 : a ∈ l) (m2 : b ∈ l) (m3 : c ∈ l) : News h₀ L h [a, b, c] := fun p hp => by
  rcases List.mem_cons.mp hp with rfl | hp
  · exact N _ m1
  rcases List.mem_cons.mp hp with rfl | hp
  · exact N _ m2
  rcases List.mem_cons.mp hp with rfl | hp
  · exact N _ m3
  · cases hp
theorem onTop {h₀ h h' : Heap} {L : Addr} {a : Addr × Obj} {l r : List (Addr × Obj)} (N : News h₀ L h l) (N' : News h₀ L h' (a :: r)) (k : ∀ b o, h.get? b = some o → h'.get? b = some o) : News h₀ L h' (a :: l) := fun p hp => by
  rcases List.mem_cons.mp hp with rfl | hp
  · exact N' _ (.head _)
  · exact ⟨k _ _ (N p hp).1, (N p hp).2⟩
local macro_rules | `(tactic| walk_at "UnrEndW") => `(tactic| (refine Hold.out ?_))
local macro_rules | `(tactic| walk_at "call type:zip") => `(tactic| (k_here; refine Hold.out ?_))
local macro_rules | `(tactic| walk_at "call ref") => `(tactic| (k_here; (with_reducible show wpAny _ _ (call (Value.ref 200) _ _) _ _ _); k_dflt (refine' replace2 _ _ _ _ _ _ _ _ _ _ ?h1 ?h2 ?h3 ?h4 ?hy1 ?hy2 _ _ _ _ _ _ _ _ _ _ _ _ _ _ _ _ _ ?B ?F ?X ?T ?kK ?kd ?ku trivial ?_; (case B => k_asm); (case F => k_asm); (case X => k_asm); (case T => k_asm); (case kK => first | exact rfl | assumption); (case kd => ktr_room); (case ku => ktr_units); (case h1 => omega); (case h2 => omega); (case h3 => omega); (case h4 => assumption); (case hy1 => decide); (case hy2 => decide); k_whole); (with_reducible rename News _ _ _ _ => N9'); intro t9 h9 tk9 F9 k9; (replace N9' := news_kept N9' k9); clear k9; (try dsimp only); (try k_fold)))
local macro_rules | `(tactic| walk_at "call ref") => `(tactic| (k_here; (with_reducible show wpAny _ _ (call (Value.ref 121) _ _) _ _ _); refine Hold.out ?_))
def akOf (W0 W1 t : Str) : Str := rep (rep t (Str.ofString "p") W0) (Str.ofString "q") W1
def dueOf (b : Bool) (W0 W1 : Str) (tx : List Str) (t : Str) : List Str := if b then tx.filter fun u => szOf W0 W1 u == szOf W0 W1 t else [t]
theorem ints_get {vs : List Value} {ns : List Int} (h : IntsAre vs ns) {i : Nat} {v : Value} (e : vs[i]? = some v) : ∃ k t, v = .int k t ∧ ns[i]? = some k := by
  induction h generalizing i with
  | nil => simp at e
  | cons n t _ ih =>
    cases i with
    | zero =>
      simp at e
      exact ⟨n, t, e.symm, rfl⟩
    | succ i => exact ih (by simpa using e)
theorem see_in {m : Str → Option Value} {x y : Str} {v : Value} {r : Option Value} (h : (fun z => if z = x then some v else m z) y = r) (n : y ≠ x) : m y = r := by
  have h' : (if y = x then some v else m y) = r := h
  rw [if_neg n] at h'
  exact h'
theorem offTups {h₀ h : Heap} {L : Addr} {a : Addr} {o : Obj} {v : Option Value} {news tups : List (Addr × Obj)} (N : News h₀ L h news) (ho : (a, o) ∈ news) (hd : o.data = .cell v) (hs : ∀ p ∈ tups, p ∈ news) (hT : TupsOk tups) : ∀ p ∈ tups, p.1 ≠ a := by
  intro p hp e
  have z := (N p (hs p hp)).1
  rw [e, (N _ ho).1] at z
  obtain ⟨_, b, hb⟩ := hT p hp
  rw [← Option.some.inj z, hd] at hb
  cases hb
theorem offPre {I L l D : Nat} {a b c d e : Obj} {f g : Obj} (h : L + 3 < I) (h1 : l ≠ L + 3) (h2 : D ≠ L + 3) : ∀ p ∈ ([(I + 4, a), (I + 2, b), (I + 3, c), (I, d), (I + 1, e), (D, f), (l, g)] : List (Addr × Obj)), p.1 ≠ L + 3 := by
  intro p hp
  simp only [List.mem_cons, List.not_mem_nil, or_false] at hp
  rcases hp with rfl | rfl | rfl | rfl | rfl | rfl | rfl
  · show (I : Nat) + 4 ≠ L + 3; omega
  · show (I : Nat) + 2 ≠ L + 3; omega
  · show (I : Nat) + 3 ≠ L + 3; omega
  · show (I : Nat) ≠ L + 3; omega
  · show (I : Nat) + 1 ≠ L + 3; omega
  · exact h2
  · exact h1
theorem dueOf_mem {b : Bool} {W0 W1 t : Str} {tx : List Str} (ht : t ∈ tx) : ∀ u ∈ dueOf b W0 W1 tx t, u ∈ tx := by
  intro u hu
  unfold dueOf at hu
  cases b
  · simp at hu; subst hu; exact ht
  · simp at hu; exact hu.1
theorem endZ {h₀ h' : Heap} {L : Addr} {its all : List (Addr × Obj)} {rest : (Str → Option Value) → List (Addr × Obj) → Prop} {s₁ : Shared} {tk : Nat} {m' : Str → Option Value} (F : Fr h₀ L h' m') (N : News h₀ L h' all) (news' : List (Addr × Obj)) (sub : ∀ p ∈ its ++ news', p ∈ all) (off : ∀ p ∈ news', ∀ q ∈ its, p.1 ≠ q.1) (r : rest m' news') : UnrEndW h₀ L s₁ its rest { s₁ with heap := h', toks := tk } :=
  ⟨h', tk, m', news', rfl, F, fun p hp => N p (sub p hp), off, r⟩
theorem offZ {I D l c : Addr} {a b o o' : Obj} {z1 z2 z3 z4 z5 : Obj} {r : List (Addr × Obj)} (hI : ∀ p ∈ (D, a) :: (l, b) :: (c, o) :: r, p.1 < I) : ∀ p ∈ (D, a) :: (l, b) :: (c, o') :: r, ∀ q ∈ ([(I + 4, z1), (I + 2, z2), (I + 3, z3), (I, z4), (I + 1, z5)] : List (Addr × Obj)), p.1 ≠ q.1 := by
  intro p hp q hq
  have h1 : (p.1 : Nat) < I := by
    rcases List.mem_cons.mp hp with rfl | hp
    · exact hI (D, a) (.head _)
    rcases List.mem_cons.mp hp with rfl | hp
    · exact hI (l, b) (.tail _ (.head _))
    rcases List.mem_cons.mp hp with rfl | hp
    · exact hI (c, o) (.tail _ (.tail _ (.head _)))
    · exact hI _ (.tail _ (.tail _ (.tail _ hp)))
  have h2 : (I : Nat) ≤ q.1 := by
    simp only [List.mem_cons, List.not_mem_nil, or_false] at hq
    rcases hq with rfl | rfl | rfl | rfl | rfl
    · exact Nat.le_add_right I 4
    · exact Nat.le_add_right I 2
    · exact Nat.le_add_right I 3
    · exact Nat.le_refl I
    · exact Nat.le_add_right I 1
  exact Nat.ne_of_lt (Nat.lt_of_lt_of_le h1 h2)
theorem st7 {w : World} {p : Program} {loose : List Str} {mean : ExcName → Option Value} {mg mb : Str → Option Value} (fa : Addr) (cdv : Value) (base h₀ : Heap) (L : Addr) (m : Str → Option Value) (s : Shared) (Q : Flow → Shared → Prop) (E : Value → Shared → Prop)
    (x dx lh l D : Addr) (tkd : Tok) (hsh : Int) (n n' nz : Nat) (txts vs zs : List Value) (tx : List Str) (o1 o2 o3 : Obj) (W0 W1 : Str) (t0 t1 : Tok) (tups : List (Addr × Obj)) (b : Bool)
    (B : Below callerA base [] h₀) (F : Fr h₀ L s.heap m) (X : (hd2.heap_39 w.params).In h₀) (T : Top p loose mean mg mb h₀)
    (N : News h₀ L s.heap ((D, listOf zs.toArray nz) :: (l, listOf txts.toArray n) :: (L + 3, o3) :: (L + 2, o2) :: (L + 1, o1) :: (tab3 182 x dx lh tkd hsh vs n' ++ tups)))
    (d1 : o1.data = .cell (some (.str W0 t0))) (d2 : o2.data = .cell (some (.str W1 t1))) (d3 : ∃ v, o3.data = .cell v) (hm1 : m (Str.ofString "texts") = some (.ref l)) (hm2 : m (Str.ofString "table") = some (.ref x)) (hm3 : m (Str.ofString "sizes") = some (.ref D)) (hm4 : m (Str.ofString "alike") = some (.bool b))
    (q1 : x < lh) (q2 : dx < lh) (q3 : dx < x) (q4 : l < dx) (q5 : L + 3 < dx) (q6 : l ≠ L + 3) (q7 : D ≠ L + 3)
    (hS : StrsAre txts tx) (hZ : IntsAre zs (tx.map (szOf W0 W1))) (hT : TupsIn tups vs (rowsOf W0 W1 tx)) (hn : tx.length ≤ 100) (hW0 : W0.length ≤ 100) (hW1 : W1.length ≤ 100)
    (hTd : TupsOk tups) (hok : ∀ t ∈ tx, PyData.strOk t = true) (hR : ∀ r ∈ rowsOf W0 W1 tx, r.1.length ≤ 1000)
    (htx : ∀ t ∈ tx, t.length ≤ 100 ∧ (rep t (Str.ofString "p") W0).length ≤ 1000 ∧ (akOf W0 W1 t).length ≤ 1000 ∧ (Txt.lower (akOf W0 W1 t)).length ≤ 1000 ∧ Plain (Txt.lower (akOf W0 W1 t)))
    (hdue : ∀ t ∈ tx, ((rowsOf W0 W1 tx).filter fun r => Txt.lower r.1 == Txt.lower (akOf W0 W1 t)).map (·.2) = dueOf b W0 W1 tx t)
    (hE : PassesOwn (model PySem.Challenge.rw_pg0249_02.row.prog w) (lawA L fa cdv) (envOfC (Str.ofString "law") lawScope L fa cdv) E)
    (hret : ∀ h tk m' news, Fr h₀ L h m' → News h₀ L h news → Q .next { s with heap := h, toks := tk }) :
    wpAny (model PySem.Challenge.rw_pg0249_02.row.prog w) (lawA L fa cdv) (exec (nthS lawBody 7) (envOfC (Str.ofString "law") lawScope L fa cdv)) Q E s := by
  revert X; k_fill; intro X
  have eS : lawScope = lawScope := rfl
  have eB : nthS lawBody 7 = nthS lawBody 7 := rfl
  (conv at eS => rhs; whnf)
  (conv at eB => rhs; whnf)
  unfold lawA at hE ⊢
  rw [eS] at hE ⊢
  rw [eB]
  clear eS eB
  obtain ⟨m, rfl⟩ := see_eq hm1
  obtain ⟨m, rfl⟩ := see_eq hm3
  (with_unfolding_all refine' For_turns (hE := hE) F ?_; k_whole)
  k_steps
  refine Hold.mk ?_
  have hlen : txts.length = zs.length := by rw [hS.length, hZ.length, List.length_map]
  (with_unfolding_all refine ktu_zip (lo1 := listOf txts.toArray n) (lo2 := listOf zs.toArray nz) (xs := txts) (ys := zs) (by rfl) F N (by k_mem) (by rfl) (by rfl) (by k_mem) (by rfl) (by rfl) ?_)
  intro I hI
  clear F N
  refine zipRest_ind (xs := txts) (ys := zs) hlen (J := fun i m' news => ∃ o3', (∃ v, o3'.data = .cell v) ∧ news = (D, listOf zs.toArray nz) :: (l, listOf txts.toArray n) :: (L + 3, o3') :: (L + 2, o2) :: (L + 1, o1) :: (tab3 182 x dx lh tkd hsh vs n' ++ tups) ∧ m' (Str.ofString "texts") = some (.ref l) ∧ m' (Str.ofString "table") = some (.ref x) ∧ m' (Str.ofString "sizes") = some (.ref D) ∧ m' (Str.ofString "alike") = some (.bool b)) ?_ ?_ txts.length 0 _ _ rfl ⟨o3, d3, rfl, hm1, hm2, hm3, hm4⟩
  · intro i v₁ v₂ m' news e1 e2 j T1 h tk hTup F
    obtain ⟨o3', ⟨v3, d3'⟩, rfl, jm1, jm2, jm3, jm4⟩ := j
    obtain ⟨t, tt, rfl, ht⟩ := strs_get hS e1
    obtain ⟨z, tz, rfl, hz⟩ := ints_get hZ e2
    have ez : z = szOf W0 W1 t := by
      rw [List.getElem?_map, ht] at hz
      exact (Option.some.inj hz).symm
    subst ez
    obtain ⟨m1, rfl⟩ := see_eq jm1
    replace jm2 := see_in jm2 (by decide)
    replace jm3 := see_in jm3 (by decide)
    replace jm4 := see_in jm4 (by decide)
    obtain ⟨m2, rfl⟩ := see_eq jm2
    replace jm3 := see_in jm3 (by decide)
    replace jm4 := see_in jm4 (by decide)
    obtain ⟨m3, rfl⟩ := see_eq jm3
    replace jm4 := see_in jm4 (by decide)
    obtain ⟨m4, rfl⟩ := see_eq jm4
    clear jm1 jm2 jm3 jm4
    intro oz hoz oTI hoTI oTO hoTO oi hoi oj hoj N
    (try simp only [List.cons_append, List.nil_append] at N)
    obtain ⟨b1, b2, b3, b4, b5⟩ := htx t (List.mem_of_getElem? ht)
    have hU : UpdF (L + 3) o3' _ _ := updF_mk (o := o3') (pre := [(I + 4, oz), (I + 2, oTI), (I + 3, oTO), (I, oi), (I + 1, oj), (D, listOf zs.toArray nz), (l, listOf txts.toArray n)]) (post := (L + 2, o2) :: (L + 1, o1) :: (lh, listOf vs.toArray n') :: (x, instObj 182 dx) :: (dx, hdrDict tkd hsh lh) :: tups) (offPre (ltN (hI _ (.tail _ (.tail _ (.head _))))) q6 q7) (by
      intro p hp e
      rcases List.mem_cons.mp hp with rfl | hp
      · exact absurd e (Nat.ne_of_lt (Nat.lt_succ_self (L + 2)))
      rcases List.mem_cons.mp hp with rfl | hp
      · exact absurd e (Nat.ne_of_lt (Nat.lt_trans (Nat.lt_succ_self (L + 1)) (Nat.lt_succ_self (L + 2))))
      rcases List.mem_cons.mp hp with rfl | hp
      · exact absurd e (Nat.ne_of_gt (Nat.lt_trans (ltN q5) (ltN q2)))
      rcases List.mem_cons.mp hp with rfl | hp
      · exact absurd e (Nat.ne_of_gt (Nat.lt_trans (ltN q5) (ltN q3)))
      rcases List.mem_cons.mp hp with rfl | hp
      · exact absurd e (Nat.ne_of_gt (ltN q5))
      exact offTups N (by k_mem) d3' (fun p hp => by repeat (first | exact hp | refine List.Mem.tail _ ?_)) hTd p hp e)
    simp only [List.cons_append, List.nil_append] at hU
    cases b
    · k_steps
      refine Hold.mk ?_
      (with_reducible rename Fr _ _ _ _ => F1)
      (with_reducible rename News _ _ _ _ => N1)
      replace F1 : Fr h₀ L _ _ := F1
      replace N1 : News h₀ L _ _ := N1
      have R1 := hT.rows (h₀ := h₀) (L := L) (h := _) fun p hp => (N1 p (by repeat (first | exact hp | refine List.Mem.tail _ ?_))).1
      k_dflt (refine' getall _ _ _ _ _ _ _ _ _ _ _ _ _ _ _ _ _ x dx lh tkd hsh vs n' (rowsOf W0 W1 tx) (akOf W0 W1 t) _ B F1 X T ?kK ?kd ?ku (three N1 (by k_mem) (by k_mem) (by k_mem)) R1 (by rw [hT.length]; simp [rowsOf]; omega) q1 q2 q3 b3 b4 b5 hR ?_; (case kK => first | exact rfl | assumption); (case kd => ktr_room); (case ku => ktr_units); k_whole)
      intro D2 ys2 n2 h2 tk2 F2 N2 hy2 k2
      have N3 := onTop N1 N2 k2
      clear N1 N2 k2 R1 F1
      k_steps
      refine Hold.mk ?_
      have em := List.mem_of_getElem? ht
      have ed := hdue t em
      rw [ed] at hy2
      with_unfolding_all refine ne_strs (vs := ys2) (us := [.str t tt]) (ns := [t]) (ms := [t]) ?a1 ?a2 ?a3 (.cons t tt .nil) rfl (fun u hu => hok u (dueOf_mem (b := false) (W0 := W0) (W1 := W1) em u hu)) (by ktr_units) ?a5
      case a1 => exact ⟨_, (N3 _ (.head _)).1, rfl, _, rfl⟩
      case a2 => exact hy2
      case a3 => exact ⟨_, (N3 _ (.tail _ (.head _))).1, rfl, _, rfl⟩
      case a5 => 
        k_steps
        refine Hold.mk ?_
        refine endZ F2 N3 ((D, listOf zs.toArray nz) :: (l, listOf txts.toArray n) :: (L + 3, _) :: (L + 2, o2) :: (L + 1, o1) :: (tab3 182 x dx lh tkd hsh vs n' ++ tups)) (fun p hp => .tail _ (.tail _ hp)) (offZ hI) ⟨by k_subL, _, ⟨_, by assumption⟩, rfl, ?_, ?_, ?_, ?_⟩
        all_goals first | exact if_pos rfl | exact (if_neg (by decide)).trans (if_pos rfl) | exact (if_neg (by decide)).trans ((if_neg (by decide)).trans (if_pos rfl)) | exact (if_neg (by decide)).trans ((if_neg (by decide)).trans ((if_neg (by decide)).trans (if_pos rfl))) | exact (if_neg (by decide)).trans ((if_neg (by decide)).trans ((if_neg (by decide)).trans ((if_neg (by decide)).trans (if_pos rfl)))) | exact (if_neg (by decide)).trans ((if_neg (by decide)).trans ((if_neg (by decide)).trans ((if_neg (by decide)).trans ((if_neg (by decide)).trans (if_pos rfl)))))
    · k_steps
      refine Hold.mk ?_
      refine SrcZ.call (n := txts.length) (J := fun i ys => StrsAre ys ((tx.take i).filter fun u => szOf W0 W1 u == szOf W0 W1 t)) (by rfl) (by k_asm) (by k_asm) (by k_mem) (by k_mem) (by rw [sizeLine_eq, hS.length]; omega) (by rw [← hlen]; exact Nat.min_self _) .nil ?_ ?_
      · intro z TI TO i1 i2 i ys' v₁ v₂ g e1 e2 j hyl oz oTI oTO o1 o2 C oC D m₂ h tk E' hC hx hx2 F N
        obtain ⟨u, tu, rfl, hu⟩ := strs_get hS e1
        obtain ⟨zu, tzu, rfl, hzu⟩ := ints_get hZ e2
        have ezu : zu = szOf W0 W1 u := by
          rw [List.getElem?_map, hu] at hzu
          exact (Option.some.inj hzu).symm
        subst ezu
        refine wpAny_tests_one ?_
        k_steps
        · (with_reducible rename szOf W0 W1 u = szOf W0 W1 t => hq)
          refine TurnEnd.intro (by k_asm) N (fun _ hp => hp) ?_
          rw [filt_yes hu (by rw [hq]; exact beq_self_eq_true _)]
          exact strs_snoc j _ _
        · (with_reducible rename szOf W0 W1 u ≠ szOf W0 W1 t => hq)
          refine TurnEnd.intro (by k_asm) N (fun _ hp => hp) ?_
          rw [filt_no hu (by simpa using hq)]
          exact j
      · intro D9 ys9 h9 tk9 j9 F9 N9 off9
        k_steps
        refine Hold.mk ?_
        (with_reducible rename News _ _ _ _ => N1)
        (with_reducible rename Fr _ _ _ _ => F1)
        replace F1 : Fr h₀ L _ _ := F1
        replace N1 : News h₀ L _ _ := N1
        have R1 := hT.rows (h₀ := h₀) (L := L) (h := _) fun p hp => (N1 p (by repeat (first | exact hp | refine List.Mem.tail _ ?_))).1
        k_dflt (refine' getall _ _ _ _ _ _ _ _ _ _ _ _ _ _ _ _ _ x dx lh tkd hsh vs n' (rowsOf W0 W1 tx) (akOf W0 W1 t) _ B F1 X T ?kK ?kd ?ku (three N1 (by k_mem) (by k_mem) (by k_mem)) R1 (by rw [hT.length]; simp [rowsOf]; omega) q1 q2 q3 b3 b4 b5 hR ?_; (case kK => first | exact rfl | assumption); (case kd => ktr_room); (case ku => ktr_units); k_whole)
        intro D2 ys2 n2 h2 tk2 F2 N2 hy2 k2
        have N3 := onTop N1 N2 k2
        clear N1 N2 k2 R1 F1
        k_steps
        refine Hold.mk ?_
        have em := List.mem_of_getElem? ht
        have ed := hdue t em
        rw [ed] at hy2
        rw [hS.length, List.take_length] at j9
        with_unfolding_all refine ne_strs (vs := ys2) (us := ys9) (ns := dueOf true W0 W1 tx t) ?a1 ?a2 ?a3 j9 rfl (fun u hu => hok u (dueOf_mem (b := true) (W0 := W0) (W1 := W1) em u hu)) (by ktr_units) ?a5
        case a1 => exact ⟨_, (N3 _ (.head _)).1, rfl, _, rfl⟩
        case a2 => exact hy2
        case a3 => exact ⟨_, (N3 _ (.tail _ (.head _))).1, rfl, _, rfl⟩
        case a5 => 
          k_steps
          refine Hold.mk ?_
          refine endZ F2 N3 ((D, listOf zs.toArray nz) :: (l, listOf txts.toArray n) :: (L + 3, _) :: (L + 2, o2) :: (L + 1, o1) :: (tab3 182 x dx lh tkd hsh vs n' ++ tups)) (fun p hp => .tail _ (.tail _ hp)) (offZ hI) ⟨by k_subL, _, ⟨_, by assumption⟩, rfl, ?_, ?_, ?_, ?_⟩
          all_goals first | exact if_pos rfl | exact (if_neg (by decide)).trans (if_pos rfl) | exact (if_neg (by decide)).trans ((if_neg (by decide)).trans (if_pos rfl)) | exact (if_neg (by decide)).trans ((if_neg (by decide)).trans ((if_neg (by decide)).trans (if_pos rfl))) | exact (if_neg (by decide)).trans ((if_neg (by decide)).trans ((if_neg (by decide)).trans ((if_neg (by decide)).trans (if_pos rfl)))) | exact (if_neg (by decide)).trans ((if_neg (by decide)).trans ((if_neg (by decide)).trans ((if_neg (by decide)).trans ((if_neg (by decide)).trans (if_pos rfl)))))
  · intro m' news j h tk F N
    exact hret h tk m' news F N
end Mine
end
section
open PySem PySem.W PyProof.Rows
set_option Elab.async false
set_option maxRecDepth 100000
set_option maxHeartbeats 8000000
set_option pp.deepTerms true
set_option pp.proofs false
namespace Mine
theorem st8 {w : World} {p : Program} {loose : List Str} {mean : ExcName → Option Value} {mg mb : Str → Option Value} (fa : Addr) (cdv : Value) (base h₀ : Heap) (L : Addr) (m : Str → Option Value) (s : Shared) (Q : Flow → Shared → Prop) (E : Value → Shared → Prop)
    (news : List (Addr × Obj))
    (B : Below callerA base [] h₀) (F : Fr h₀ L s.heap m) (X : (hd2.heap_39 w.params).In h₀) (T : Top p loose mean mg mb h₀)
    (N : News h₀ L s.heap news)
    (hret : Q (.ret (.bool true)) s) :
    wpAny (model PySem.Challenge.rw_pg0249_02.row.prog w) (lawA L fa cdv) (exec (nthS lawBody 8) (envOfC (Str.ofString "law") lawScope L fa cdv)) Q E s := by
  revert X; k_fill; intro X
  have eS : lawScope = lawScope := rfl
  have eB : nthS lawBody 8 = nthS lawBody 8 := rfl
  (conv at eS => rhs; whnf)
  (conv at eB => rhs; whnf)
  unfold lawA
  rw [eS, eB]
  clear eS eB
  k_steps
  exact hret
theorem tail_eq : lawBody.drop 4 = [nthS lawBody 4, nthS lawBody 5, nthS lawBody 6, nthS lawBody 7, nthS lawBody 8] := rfl
structure LawOk (W0 W1 : Str) (tx : List Str) : Prop where
  g0 : WordOk W0
  g1 : WordOk W1
  hn : tx.length ≤ 100
  hp : ∀ t ∈ tx, t.length ≤ 100 ∧ Plain t ∧ (rep t (Str.ofString "p") (Txt.upper W0)).length ≤ 1000 ∧ (nmOf W0 W1 t).length ≤ 1000 ∧ Plain (nmOf W0 W1 t)
  ha : ∀ t ∈ tx, t.length ≤ 100 ∧ (rep t (Str.ofString "p") W0).length ≤ 1000 ∧ (akOf W0 W1 t).length ≤ 1000 ∧ (Txt.lower (akOf W0 W1 t)).length ≤ 1000 ∧ Plain (Txt.lower (akOf W0 W1 t))
  hok : ∀ t ∈ tx, PyData.strOk t = true
  hdue : ∀ t ∈ tx, ((rowsOf W0 W1 tx).filter fun r => Txt.lower r.1 == Txt.lower (akOf W0 W1 t)).map (·.2) = dueOf (rootOf W0 == rootOf W1) W0 W1 tx t
theorem News.sub {h₀ h : Heap} {L : Addr} {l l' : List (Addr × Obj)} (N : News h₀ L h l) (k : ∀ p ∈ l', p ∈ l) : News h₀ L h l' := fun p hp => N p (k p hp)
theorem rowsOf_le {W0 W1 : Str} {tx : List Str} (h : ∀ t ∈ tx, (nmOf W0 W1 t).length ≤ 1000) : ∀ r ∈ rowsOf W0 W1 tx, r.1.length ≤ 1000 := by
  intro r hr
  obtain ⟨t, ht, rfl⟩ := List.mem_map.mp hr
  exact h t ht
theorem cellNe {h₀ h : Heap} {L a b : Addr} {o : Obj} {xs : Array Value} {n : Nat} {v : Option Value} {news : List (Addr × Obj)} (N : News h₀ L h news) (ha : (a, listOf xs n) ∈ news) (hb : (b, o) ∈ news) (d : o.data = .cell v) : a ≠ b := by
  intro e
  have z := (N _ ha).1
  have z' := (N _ hb).1
  rw [show ((a, listOf xs n) : Addr × Obj).1 = ((b, o) : Addr × Obj).1 from e, z'] at z
  have := Option.some.inj z
  have d' : o.data = (listOf xs n).data := by rw [show o = listOf xs n from this]
  rw [d] at d'
  cases d'
theorem tail4 {w : World} {p : Program} {loose : List Str} {mean : ExcName → Option Value} {mg mb : Str → Option Value} (fa : Addr) (cdv : Value) (base h₀ : Heap) (L : Addr) (m : Str → Option Value) (s : Shared) (Q : Flow → Shared → Prop) (E : Value → Shared → Prop)
    (x dx lh l : Addr) (tkd : Tok) (hsh : Int) (n : Nat) (txts : List Value) (tx : List Str) (o1 o2 o3 : Obj) (W0 W1 : Str) (t0 t1 : Tok)
    (B : Below callerA base [] h₀) (F : Fr h₀ L s.heap m) (X : (hd2.heap_39 w.params).In h₀) (T : Top p loose mean mg mb h₀)
    (N : News h₀ L s.heap (tab3 182 x dx lh tkd hsh [] 0 ++ [(l, listOf txts.toArray n), (L + 3, o3), (L + 2, o2), (L + 1, o1)]))
    (d1 : o1.data = .cell (some (.str W0 t0))) (d2 : o2.data = .cell (some (.str W1 t1))) (d3 : ∃ v, o3.data = .cell v) (hm1 : m (Str.ofString "texts") = some (.ref l)) (hm2 : m (Str.ofString "table") = some (.ref x))
    (q1 : x < lh) (q2 : dx < lh) (q3 : dx < x) (q4 : l < dx) (q5 : L + 3 < dx)
    (hS : StrsAre txts tx) (ok : LawOk W0 W1 tx)
    (hE : PassesOwn (model PySem.Challenge.rw_pg0249_02.row.prog w) (lawA L fa cdv) (envOfC (Str.ofString "law") lawScope L fa cdv) E)
    (hret : ∀ h tk m' news, Fr h₀ L h m' → News h₀ L h news → Q (.ret (.bool true)) { s with heap := h, toks := tk }) :
    wpAny (model PySem.Challenge.rw_pg0249_02.row.prog w) (lawA L fa cdv) (execs (lawBody.drop 4) (envOfC (Str.ofString "law") lawScope L fa cdv)) Q E s := by
  have hW0 : W0.length ≤ 100 := Nat.le_trans ok.g0.h4 (by decide)
  have hW1 : W1.length ≤ 100 := Nat.le_trans ok.g1.h4 (by decide)
  rw [tail_eq]
  (try dsimp only)
  refine wpAny_execs_cons (st4 fa cdv base h₀ L m s _ E x dx lh l tkd hsh n txts tx o1 o2 o3 W0 W1 t0 t1 B F X T N d1 d2 hm1 hm2 q1 q2 q3 q4 q5 hS ok.hn hW0 hW1 ok.hp hE ?_)
  intro h tk m' vs n' tups jm1 jm2 jt jc F N
  obtain ⟨v3, d3⟩ := d3
  have q6 : l ≠ L + 3 := cellNe (xs := txts.toArray) (n := n) N (by simp) (by simp) d3
  have N1 : News h₀ L h ((L + 3, o3) :: (L + 2, o2) :: (L + 1, o1) :: ((l, listOf txts.toArray n) :: (tab3 182 x dx lh tkd hsh vs n' ++ tups))) := News.sub N (by
    intro p hp
    simp only [List.mem_cons, List.mem_append, List.not_mem_nil, or_false] at hp ⊢
    rcases hp with h | h | h | h | (h | h | h) | h <;> simp only [h, true_or, or_true])
  (try dsimp only)
  refine wpAny_execs_cons (st5 fa cdv base h₀ L m' _ _ E _ o1 o2 o3 W0 W1 t0 t1 B F X T N1 d1 d2 ok.g0 ok.g1 ?_)
  clear N N1 F
  intro h tk F N
  have N1 : News h₀ L h ((l, listOf txts.toArray n) :: (L + 3, o3) :: (L + 2, o2) :: (L + 1, o1) :: (tab3 182 x dx lh tkd hsh vs n' ++ tups)) := News.sub N (by
    intro p hp
    simp only [List.mem_cons, List.mem_append, List.not_mem_nil, or_false] at hp ⊢
    rcases hp with h | h | h | h | (h | h | h) | h <;> simp only [h, true_or, or_true])
  (try dsimp only)
  refine wpAny_execs_cons (st6 fa cdv base h₀ L _ _ _ E l n txts tx _ o1 o2 o3 W0 W1 t0 t1 B F X T N1 d1 d2 ((if_neg (by decide)).trans jm1) hS ok.hn hW0 hW1 (fun t ht => (ok.hp t ht).1) ?_)
  clear N N1 F
  intro h tk D zs hZ off F N
  (try dsimp only)
  refine wpAny_execs_cons (st7 fa cdv base h₀ L _ _ _ E x dx lh l D tkd hsh n n' zs.length txts vs zs tx o1 o2 o3 W0 W1 t0 t1 tups (rootOf W0 == rootOf W1) B F X T N d1 d2 ⟨v3, d3⟩ ((if_neg (by decide)).trans ((if_neg (by decide)).trans jm1)) ((if_neg (by decide)).trans ((if_neg (by decide)).trans jm2)) (if_pos rfl) ((if_neg (by decide)).trans (if_pos rfl)) q1 q2 q3 q4 q5 q6 (cellNe N (.head _) (.tail _ (.tail _ (.head _))) d3) hS hZ jt ok.hn hW0 hW1 jc ok.hok (rowsOf_le fun t ht => (ok.hp t ht).2.2.2.1) ok.ha ok.hdue hE ?_)
  clear N F
  intro h tk m9 news9 F N
  (try dsimp only)
  exact wpAny_execs_cons (st8 fa cdv base h₀ L _ _ _ E _ B F X T N (hret _ _ _ _ F N))
end Mine
end
section
open PySem PySem.W PyProof.Rows PySem.StrLaws PySem.Builtin PySem.Builtin.Str
set_option Elab.async false
set_option maxRecDepth 100000
namespace Mine
theorem at_one {x : Str} {c k : Nat} : At x ⟨#[c]⟩ x.length k ↔ x.cps.toList[k]? = some c := by
  have hl : x.length = x.cps.toList.length := by simp [Str.length]
  unfold At
  rw [subAt_eq]
  have e1 : (⟨#[c]⟩ : Str).length = 1 := rfl
  have e2 : (⟨#[c]⟩ : Str).cps.toList = [c] := rfl
  rw [e1, e2, hl]
  constructor
  · rintro ⟨h1, h2⟩
    have h2 := eq_of_beq h2
    rw [List.drop_eq_getElem_cons (by omega)] at h2
    simp at h2
    rw [List.getElem?_eq_getElem (by omega)]
    simpa using h2
  · intro h
    obtain ⟨h1, h2⟩ := List.getElem?_eq_some_iff.mp h
    refine ⟨h1, ?_⟩
    rw [List.drop_eq_getElem_cons h1, h2]
    simp
def sub1 (c : Nat) (z : List Nat) (l : List Nat) : List Nat := l.flatMap fun d => if d = c then z else [d]
theorem sub1_none {c : Nat} {z : List Nat} : ∀ {l : List Nat}, (∀ d ∈ l, d ≠ c) → sub1 c z l = l
  | [], _ => rfl
  | d :: r, h => by
    have ih := sub1_none (z := z) (l := r) fun e he => h e (.tail _ he)
    unfold sub1 at ih ⊢
    rw [List.flatMap_cons, if_neg (h d (.head _)), ih]
    rfl
theorem join_parts (x z : Str) (c : Nat) : ∀ (cuts : List Nat) (a f : Nat), ChainG x ⟨#[c]⟩ x.length a cuts f → (∀ k, f ≤ k → ¬ At x ⟨#[c]⟩ x.length k) → (Str.join z (partsFrom x 1 a cuts)).cps.toList = sub1 c z.cps.toList (x.cps.toList.drop a)
  | [], a, f, h, hn => by
    have e : f = a := h
    subst e
    show (strSub x f x.length).cps.toList = _
    rw [strSub_toList, sub1_none]
    · exact List.take_of_length_le (by simp [Str.length])
    · intro d hd e
      obtain ⟨i, hi⟩ := List.mem_iff_getElem?.mp hd
      rw [List.getElem?_drop] at hi
      exact hn (f + i) (by omega) (at_one.mpr (by rw [hi, e]))
  | k :: r, a, f, h, hn => by
    obtain ⟨h1, h2, h3, h4⟩ := h
    have h2' := at_one.mp h2
    have ih := join_parts x z c r (k + 1) f h4 hn
    obtain ⟨p, r', hp⟩ := partsFrom_ne x 1 (k + 1) r
    show (Str.join z (strSub x a k :: partsFrom x 1 (k + 1) r)).cps.toList = _
    rw [hp] at ih ⊢
    show (strSub x a k ++ z ++ Str.join z (p :: r')).cps.toList = _
    rw [Str.cps_append, Str.cps_append, Array.toList_append, Array.toList_append, ih, strSub_toList]
    obtain ⟨hk, hkc⟩ := List.getElem?_eq_some_iff.mp h2'
    have e1 : x.cps.toList.drop a = (x.cps.toList.drop a).take (k - a) ++ c :: x.cps.toList.drop (k + 1) := by
      have : (x.cps.toList.drop a).drop (k - a) = c :: x.cps.toList.drop (k + 1) := by
        rw [List.drop_drop, show a + (k - a) = k by omega, List.drop_eq_getElem_cons hk, hkc]
      rw [← this, List.take_append_drop]
    have e2 : sub1 c z.cps.toList ((x.cps.toList.drop a).take (k - a)) = (x.cps.toList.drop a).take (k - a) := by
      refine sub1_none fun d hd e => ?_
      obtain ⟨i, hi⟩ := List.mem_iff_getElem?.mp hd
      rw [List.getElem?_take] at hi
      split at hi
      · rename_i hlt
        rw [List.getElem?_drop] at hi
        exact h3 (a + i) (by omega) (by omega) (at_one.mpr (by rw [hi, e]))
      · cases hi
    conv => rhs; rw [e1]
    unfold sub1 at e2 ⊢
    rw [List.flatMap_append, e2, List.flatMap_cons, if_pos rfl, List.append_assoc]
theorem rep_one (x z : Str) (c : Nat) : (Txt.join z (Txt.split x ⟨#[c]⟩)).cps.toList = sub1 c z.cps.toList x.cps.toList := by
  have hone : (⟨#[c]⟩ : Str).length = 1 := rfl
  obtain ⟨f, h1, h2⟩ := occ_tight x ⟨#[c]⟩ (by rw [hone]; exact Nat.le_refl _)
  have hj : (Str.join z (partsFrom x 1 0 (occurrences x ⟨#[c]⟩ 0 x.length (x.length + 1)))).cps.toList = sub1 c z.cps.toList x.cps.toList := join_parts x z c _ 0 f h1 h2
  have same : (∀ d ∈ x.cps.toList, d ≠ c) → (Txt.join z [x]).cps.toList = sub1 c z.cps.toList x.cps.toList := fun h => by
    rw [sub1_none h]
    rfl
  unfold Txt.split
  split
  · rename_i hc
    refine same fun d hd e => ?_
    rw [hone] at hc
    simp only [Bool.or_eq_true, decide_eq_true_eq] at hc
    rcases hc with hc | hc
    · have : x.cps.toList.length = x.length := by simp [Str.length]
      have := List.length_pos_of_mem hd
      omega
    · have hd' : d ∈ x.cps := by simpa using hd
      have k1 : ∀ m, (∀ e ∈ x.cps, e < m) → d < m := fun m h => h d hd'
      subst e
      unfold Builtin.Str.strKind at hc
      by_cases a1 : x.cps.all (· < 256) = true
      · have b1 : d < 256 := by simpa using (Array.all_eq_true_iff_forall_mem.mp a1) d hd'
        simp [a1, b1] at hc
      · by_cases a2 : x.cps.all (· < 65536) = true
        · have b2 : d < 65536 := by simpa using (Array.all_eq_true_iff_forall_mem.mp a2) d hd'
          rw [if_neg a1, if_pos a2] at hc
          split at hc
          · omega
          · split at hc
            · omega
            · rename_i h9
              simp [b2] at h9
        · rw [if_neg a1, if_neg a2] at hc
          split at hc
          · omega
          · split at hc <;> omega
  · split
    · rename_i he
      refine same fun d hd e => ?_
      have he' := List.isEmpty_iff.mp he
      rw [he'] at h1
      have hf : f = 0 := h1
      obtain ⟨i, hi⟩ := List.mem_iff_getElem?.mp hd
      exact h2 i (by omega) (at_one.mpr (by rw [hi, e]))
    · rw [partsBetween_eq]
      unfold Txt.join
      rw [glued_eq_join]
      exact hj
end Mine
end
section
set_option Elab.async false
namespace Mine
def fl (x y : List Nat) : List Bool → List Nat
  | [] => []
  | b :: r => (if b then y else x) ++ fl x y r
def sg : List Bool → List Bool
  | [] => []
  | false :: r => false :: sg r
  | true :: r => false :: true :: sg r
def ta : List Bool → List Bool
  | [] => []
  | false :: r => true :: false :: ta r
  | true :: r => true :: ta r
theorem fl_sg (x z : List Nat) : ∀ w, fl x (x ++ z) w = fl x z (sg w)
  | [] => rfl
  | false :: r => by simp [fl, sg, fl_sg x z r]
  | true :: r => by simp [fl, sg, fl_sg x z r]
theorem fl_ta (y z : List Nat) : ∀ w, fl (y ++ z) y w = fl z y (ta w)
  | [] => rfl
  | false :: r => by simp [fl, ta, fl_ta y z r]
  | true :: r => by simp [fl, ta, fl_ta y z r]
theorem sg_ne (u v : List Bool) : sg u ≠ true :: v := by
  match u with
  | [] => simp [sg]
  | false :: r => simp [sg]
  | true :: r => simp [sg]
theorem ta_ne (u v : List Bool) : ta u ≠ false :: v := by
  match u with
  | [] => simp [ta]
  | false :: r => simp [ta]
  | true :: r => simp [ta]
theorem code : ∀ (n : Nat) (x y : List Nat) (u v : List Bool), x.length + y.length ≤ n → fl x y u = fl x y v → u ≠ v → x ++ y = y ++ x := by
  intro n
  induction n with
  | zero =>
    intro x y u v h _ _
    have hx : x = [] := List.length_eq_zero_iff.mp (by omega)
    have hy : y = [] := List.length_eq_zero_iff.mp (by omega)
    rw [hx, hy]
  | succ n ih =>
    intro x y u v h e ne
    by_cases x0 : x = []
    · simp [x0]
    by_cases y0 : y = []
    · simp [y0]
    have lx : 1 ≤ x.length := by cases x with | nil => exact absurd rfl x0 | cons a r => simp
    have ly : 1 ≤ y.length := by cases y with | nil => exact absurd rfl y0 | cons a r => simp
    have core : ∀ u v, x ++ fl x y u = y ++ fl x y v → x ++ y = y ++ x := by
      intro u v e
      rcases List.append_eq_append_iff.mp e with ⟨z, hy, hz⟩ | ⟨z, hx, hz⟩
      · subst hy
        rw [fl_sg, fl_sg] at hz
        have := ih x z (sg u) (true :: sg v) (by simp at h; omega) (by rw [hz]; simp [fl]) (sg_ne _ _)
        rw [List.append_assoc, this]
      · subst hx
        rw [fl_ta, fl_ta] at hz
        have := ih z y (ta v) (false :: ta u) (by simp at h; omega) (by rw [hz]; simp [fl]) (ta_ne _ _)
        rw [List.append_assoc, this]
    have out : ∀ (u v : List Bool), fl x y u = fl x y v → u ≠ v → x ++ y = y ++ x := by
      intro u
      induction u with
      | nil =>
        intro v e ne
        cases v with
        | nil => exact absurd rfl ne
        | cons b r =>
          have e' : ([] : List Nat) = (if b then y else x) ++ fl x y r := e
          have := (List.append_eq_nil_iff.mp e'.symm).1
          cases b
          · exact absurd this x0
          · exact absurd this y0
      | cons a r iu =>
        intro v e ne
        cases v with
        | nil =>
          have e' : (if a then y else x) ++ fl x y r = [] := e
          have := (List.append_eq_nil_iff.mp e').1
          cases a
          · exact absurd this x0
          · exact absurd this y0
        | cons b r' =>
          have e' : (if a then y else x) ++ fl x y r = (if b then y else x) ++ fl x y r' := e
          cases a <;> cases b
          · exact iu r' (List.append_cancel_left e') (fun h => ne (by rw [h]))
          · exact core r r' e'
          · exact core r' r e'.symm
          · exact iu r' (List.append_cancel_left e') (fun h => ne (by rw [h]))
    exact out u v e ne
def powL (r : List Nat) : Nat → List Nat
  | 0 => []
  | n + 1 => r ++ powL r n
theorem powL_add (r : List Nat) (a b : Nat) : powL r a ++ powL r b = powL r (a + b) := by
  induction a with
  | zero => simp [powL]
  | succ a ih => rw [show a + 1 + b = (a + b) + 1 by omega]; simp [powL, ih]
theorem powL_len (r : List Nat) (a : Nat) : (powL r a).length = a * r.length := by
  induction a with
  | zero => simp [powL]
  | succ a ih => simp [powL, ih, Nat.succ_mul]; omega
theorem fl_pow (r : List Nat) (a b : Nat) : ∀ w, ∃ n, fl (powL r a) (powL r b) w = powL r n
  | [] => ⟨0, rfl⟩
  | c :: w => by
    obtain ⟨n, hn⟩ := fl_pow r a b w
    cases c
    · exact ⟨a + n, by simp [fl, hn, powL_add]⟩
    · exact ⟨b + n, by simp [fl, hn, powL_add]⟩
theorem fl_same (r : List Nat) (a b : Nat) (u v : List Bool) (hr : 1 ≤ r.length) (h : (fl (powL r a) (powL r b) u).length = (fl (powL r a) (powL r b) v).length) : fl (powL r a) (powL r b) u = fl (powL r a) (powL r b) v := by
  obtain ⟨n, hn⟩ := fl_pow r a b u
  obtain ⟨m, hm⟩ := fl_pow r a b v
  rw [hn, hm] at h ⊢
  rw [powL_len, powL_len] at h
  have := Nat.eq_of_mul_eq_mul_right (by omega) h
  rw [this]
theorem fl_len (x y : List Nat) : ∀ w : List Bool, (fl x y w).length = w.count false * x.length + w.count true * y.length
  | [] => by simp [fl]
  | c :: w => by
    have := fl_len x y w
    cases c <;> simp [fl, this, Nat.succ_mul] <;> omega
end Mine
end
section
open PySem PySem.W PyProof.Rows
set_option Elab.async false
set_option maxRecDepth 100000
set_option maxHeartbeats 8000000
set_option pp.deepTerms true
set_option pp.proofs false
namespace Mine
def txs : List Str := [Str.ofString "p", Str.ofString "q", Str.ofString "pp", Str.ofString "pq", Str.ofString "qp", Str.ofString "qq", Str.ofString "ppp", Str.ofString "ppq", Str.ofString "pqp", Str.ofString "pqq", Str.ofString "qpp", Str.ofString "qpq", Str.ofString "qqp", Str.ofString "qqq"]
def tab : List (List Nat × List Nat) := [([97], [97]), ([98], [98]), ([97, 97], [97]), ([98, 97], [98, 97]), ([97, 98], [97, 98]), ([98, 98], [98]), ([97, 97, 97], [97]), ([98, 97, 97], [98, 97, 97]), ([97, 98, 97], [97, 98, 97]), ([98, 98, 97], [98, 98, 97]), ([97, 97, 98], [97, 97, 98]), ([98, 97, 98], [98, 97, 98]), ([97, 98, 98], [97, 98, 98]), ([98, 98, 98], [98]), ([97, 97, 97, 97], [97]), ([98, 97, 97, 97], [98, 97, 97, 97]), ([97, 98, 97, 97], [97, 98, 97, 97]), ([98, 98, 97, 97], [98, 98, 97, 97]), ([97, 97, 98, 97], [97, 97, 98, 97]), ([98, 97, 98, 97], [98, 97]), ([97, 98, 98, 97], [97, 98, 98, 97]), ([98, 98, 98, 97], [98, 98, 98, 97]), ([97, 97, 97, 98], [97, 97, 97, 98]), ([98, 97, 97, 98], [98, 97, 97, 98]), ([97, 98, 97, 98], [97, 98]), ([98, 98, 97, 98], [98, 98, 97, 98]), ([97, 97, 98, 98], [97, 97, 98, 98]), ([98, 97, 98, 98], [98, 97, 98, 98]), ([97, 98, 98, 98], [97, 98, 98, 98]), ([98, 98, 98, 98], [98])]
def wordB (x : Str) : Bool := decide (1 ≤ x.length) && decide (x.length ≤ 4) && ((Builtin.Str.occurrences (x ++ Str.ofString "...") (Str.ofString "...") 0 (x ++ Str.ofString "...").length 1).isEmpty == false) && decide (Txt.split (x ++ Str.ofString "...") (Str.ofString "...") = [x, Str.ofString ""]) &&
  (Txt.startswith (Txt.slice (x ++ x) (some 1) none) x || Txt.startswith (Txt.slice (x ++ x) (some 2) none) x || Txt.startswith (Txt.slice (x ++ x) (some 3) none) x || Txt.startswith (Txt.slice (x ++ x) (some 4) none) x)
theorem wordOk_of {x : Str} (h : wordB x = true) : WordOk x := by
  unfold wordB at h
  simp only [Bool.and_eq_true, Bool.or_eq_true, decide_eq_true_eq, beq_iff_eq] at h
  exact ⟨h.1.1.1.1, h.1.1.1.2, h.1.1.2, h.1.2, by rcases h.2 with ((h | h) | h) | h <;> simp [h]⟩
def rowT (i : Nat) : Bool := let w := wordOf i; let q := tab.getD i ([], [])
  decide (w.cps.toList = q.1) && decide ((rootOf w).cps.toList = q.2) && wordB w && (q.1.all fun d => d == 97 || d == 98) && decide (1 ≤ q.2.length) && ((List.range 5).any fun n => decide (q.1 = powL q.2 n))
theorem rowT_all : ∀ i, i < 30 → rowT i = true := by decide +kernel
theorem nc_all : ∀ i, i < 30 → ∀ j, j < 30 → (tab.getD i ([], [])).2 = (tab.getD j ([], [])).2 ∨ (tab.getD i ([], [])).1 ++ (tab.getD j ([], [])).1 ≠ (tab.getD j ([], [])).1 ++ (tab.getD i ([], [])).1 := by decide +kernel
theorem str_toList {a b : Str} (h : a.cps.toList = b.cps.toList) : a = b := Str.ext' (Array.toList_inj.mp h)
/-- what is known of a word -/
structure WordIs (x : Str) (l r : List Nat) : Prop where
  hl : x.cps.toList = l
  hr : (rootOf x).cps.toList = r
  ok : WordOk x
  let' : ∀ d ∈ l, d = 97 ∨ d = 98
  pos : 1 ≤ r.length
  pow : ∃ n, l = powL r n
theorem wordIs {i : Nat} (h : i < 30) : WordIs (wordOf i) (tab.getD i ([], [])).1 (tab.getD i ([], [])).2 := by
  have := rowT_all i h
  unfold rowT at this
  simp only [Bool.and_eq_true, decide_eq_true_eq, List.all_eq_true, Bool.or_eq_true, beq_iff_eq, List.any_eq_true] at this
  obtain ⟨⟨⟨⟨⟨h1, h2⟩, h3⟩, h4⟩, h5⟩, ⟨n, _, h6⟩⟩ := this
  exact ⟨h1, h2, wordOk_of h3, h4, h5, n, h6⟩
def toB (l : List Nat) : List Bool := l.map (· == 113)
theorem sub_fl {x z l : List Nat} (hx : ∀ d ∈ x, d ≠ 113) (hl : ∀ d ∈ l, d = 112 ∨ d = 113) : sub1 113 z (sub1 112 x l) = fl x z (toB l) := by
  induction l with
  | nil => rfl
  | cons d r ih =>
    have ih := ih fun e he => hl e (.tail _ he)
    have e1 : sub1 112 x (d :: r) = (if d = 112 then x else [d]) ++ sub1 112 x r := rfl
    have e2 : ∀ a b : List Nat, sub1 113 z (a ++ b) = sub1 113 z a ++ sub1 113 z b := fun a b => by simp [sub1]
    rw [e1, e2, ih]
    rcases hl d (.head _) with rfl | rfl
    · rw [if_pos rfl, sub1_none hx]
      rfl
    · rw [if_neg (by decide)]
      simp [sub1, toB, fl]
theorem sub1_len {c : Nat} {z : List Nat} {m : Nat} (hz : z.length ≤ m) (hm : 1 ≤ m) : ∀ l : List Nat, (sub1 c z l).length ≤ l.length * m
  | [] => by simp [sub1]
  | d :: r => by
    have ih := sub1_len (c := c) hz hm r
    have e1 : sub1 c z (d :: r) = (if d = c then z else [d]) ++ sub1 c z r := rfl
    rw [e1, List.length_append, List.length_cons, Nat.succ_mul]
    split <;> simp <;> omega
theorem plain_of {x : Str} (h : ∀ d ∈ x.cps.toList, 32 ≤ d ∧ d < 127) : Plain x := by
  intro i hi
  refine h _ ?_
  rw [show x.cps.getD i 0 = x.cps[i] by simp [Array.getD, hi]]
  simp
def txOk (t : Str) : Bool := decide (t.cps.toList.length ≤ 3) && (t.cps.toList.all fun d => d == 112 || d == 113) && decide (Txt.count t (Str.ofString "p") = ((toB t.cps.toList).count false : Nat)) && decide (Txt.count t (Str.ofString "q") = ((toB t.cps.toList).count true : Nat)) && PyData.strOk t
theorem txOk_all : ∀ t ∈ txs, txOk t = true := by decide +kernel
theorem toB_inj : ∀ t ∈ txs, ∀ u ∈ txs, toB u.cps.toList = toB t.cps.toList → u = t := by decide +kernel
structure TxIs (t : Str) : Prop where
  len : t.cps.toList.length ≤ 3
  let' : ∀ d ∈ t.cps.toList, d = 112 ∨ d = 113
  cp : Txt.count t (Str.ofString "p") = ((toB t.cps.toList).count false : Nat)
  cq : Txt.count t (Str.ofString "q") = ((toB t.cps.toList).count true : Nat)
  ok : PyData.strOk t = true
theorem txIs {t : Str} (h : t ∈ txs) : TxIs t := by
  have := txOk_all t h
  unfold txOk at this
  simp only [Bool.and_eq_true, decide_eq_true_eq, List.all_eq_true, Bool.or_eq_true, beq_iff_eq] at this
  obtain ⟨⟨⟨⟨h1, h2⟩, h3⟩, h4⟩, h5⟩ := this
  exact ⟨h1, h2, h3, h4, h5⟩
theorem fl_mem {x y : List Nat} {P : Nat → Prop} (hx : ∀ d ∈ x, P d) (hy : ∀ d ∈ y, P d) : ∀ w, ∀ d ∈ fl x y w, P d
  | [], d, h => nomatch h
  | b :: w, d, h => by
    rcases List.mem_append.mp (show d ∈ (if b then y else x) ++ fl x y w from h) with h | h
    · cases b
      · exact hx d h
      · exact hy d h
    · exact fl_mem hx hy w d h
theorem fl_map (f : Nat → Nat) (x y : List Nat) : ∀ w, (fl x y w).map f = fl (x.map f) (y.map f) w
  | [] => rfl
  | b :: w => by
    have := fl_map f x y w
    cases b <;> simp [fl, this]
section
variable {W0 W1 t : Str} {l0 r0 l1 r1 : List Nat} (h0 : WordIs W0 l0 r0) (h1 : WordIs W1 l1 r1) (ht : TxIs t)
theorem low_map {l : List Nat} (h : ∀ d ∈ l, d = 97 ∨ d = 98) : l.map lo1 = l := by
  refine (List.map_congr_left fun d hd => ?_).trans (List.map_id l)
  rcases h d hd with rfl | rfl <;> rfl
theorem lowup_map {l : List Nat} (h : ∀ d ∈ l, d = 97 ∨ d = 98) : (l.map up1).map lo1 = l := by
  rw [List.map_map]
  refine (List.map_congr_left fun d hd => ?_).trans (List.map_id l)
  rcases h d hd with rfl | rfl <;> rfl
include h0 ht in
theorem ak_list : (akOf W0 W1 t).cps.toList = fl l0 W1.cps.toList (toB t.cps.toList) := by
  unfold akOf rep
  rw [show Str.ofString "p" = ⟨#[112]⟩ from rfl, show Str.ofString "q" = ⟨#[113]⟩ from rfl, rep_one, rep_one, h0.hl]
  exact sub_fl (fun d hd e => by rcases h0.let' d hd with h | h <;> omega) ht.let'
include h0 in
theorem up_list : (Txt.upper W0).cps.toList = l0.map up1 := by
  rw [upper_ascii (fun c hc => by
    rw [h0.hl] at hc
    rcases h0.let' c hc with h | h <;> omega), ← h0.hl]
  simp
include h0 ht in
theorem nm_list : (nmOf W0 W1 t).cps.toList = fl (l0.map up1) W1.cps.toList (toB t.cps.toList) := by
  unfold nmOf rep
  rw [show Str.ofString "p" = ⟨#[112]⟩ from rfl, show Str.ofString "q" = ⟨#[113]⟩ from rfl, rep_one, rep_one, up_list h0]
  refine sub_fl (fun d hd e => ?_) ht.let'
  obtain ⟨c, hc, rfl⟩ := List.mem_map.mp hd
  rcases h0.let' c hc with rfl | rfl <;> exact absurd e (by decide)
theorem low_list {x : Str} {l : List Nat} (e : x.cps.toList = l) (h : ∀ d ∈ l, d < 128) : (Txt.lower x).cps.toList = l.map lo1 := by
  rw [lower_ascii (fun c hc => h c (e ▸ hc)), ← e]
  simp
end
end Mine
end
section
open PySem PySem.W PyProof.Rows
set_option Elab.async false
set_option maxRecDepth 100000
set_option maxHeartbeats 8000000
set_option pp.deepTerms true
set_option pp.proofs false
namespace Mine
section
variable {W0 W1 : Str} {l0 r0 l1 r1 : List Nat} (h0 : WordIs W0 l0 r0) (h1 : WordIs W1 l1 r1)
theorem len_toList (x : Str) : x.length = x.cps.toList.length := by simp [Str.length]
include h0 in
theorem w_len : l0.length ≤ 4 := by rw [← h0.hl, ← len_toList]; exact h0.ok.h4
include h0 h1 in
theorem ak_list' {t : Str} (ht : TxIs t) : (akOf W0 W1 t).cps.toList = fl l0 l1 (toB t.cps.toList) := by rw [ak_list h0 ht, h1.hl]
include h0 h1 in
theorem nm_list' {t : Str} (ht : TxIs t) : (nmOf W0 W1 t).cps.toList = fl (l0.map up1) l1 (toB t.cps.toList) := by rw [nm_list h0 ht, h1.hl]
include h0 in
theorem up_let : ∀ d ∈ l0.map up1, d = 65 ∨ d = 66 := by
  intro d hd
  obtain ⟨c, hc, rfl⟩ := List.mem_map.mp hd
  rcases h0.let' c hc with rfl | rfl
  · exact .inl rfl
  · exact .inr rfl
include h0 h1 in
theorem ak_low {t : Str} (ht : TxIs t) : (Txt.lower (akOf W0 W1 t)).cps.toList = fl l0 l1 (toB t.cps.toList) := by
  rw [low_list (ak_list' h0 h1 ht) (fl_mem (fun d hd => by rcases h0.let' d hd with h | h <;> omega) (fun d hd => by rcases h1.let' d hd with h | h <;> omega) _), fl_map, low_map h0.let', low_map h1.let']
include h0 h1 in
theorem nm_low {t : Str} (ht : TxIs t) : (Txt.lower (nmOf W0 W1 t)).cps.toList = fl l0 l1 (toB t.cps.toList) := by
  rw [low_list (nm_list' h0 h1 ht) (fl_mem (fun d hd => by rcases up_let h0 d hd with h | h <;> omega) (fun d hd => by rcases h1.let' d hd with h | h <;> omega) _), fl_map, lowup_map h0.let', low_map h1.let']
theorem fl_le {x y : List Nat} (hx : x.length ≤ 4) (hy : y.length ≤ 4) (w : List Bool) (hw : w.length ≤ 3) : (fl x y w).length ≤ 12 := by
  have : (fl x y w).length ≤ w.length * 4 := by
    clear hw
    induction w with
    | nil => simp [fl]
    | cons b r ih =>
      rw [show fl x y (b :: r) = (if b then y else x) ++ fl x y r from rfl, List.length_append, List.length_cons, Nat.succ_mul]
      cases b <;> simp <;> omega
  omega
include h0 h1 in
theorem sz_eq {t : Str} (ht : TxIs t) : szOf W0 W1 t = ((fl l0 l1 (toB t.cps.toList)).length : Nat) := by
  unfold szOf
  rw [ht.cp, ht.cq, fl_len, len_toList, len_toList, h0.hl, h1.hl]
  push_cast
  rfl
theorem low_eq {a b : Str} {l l' : List Nat} (ha : (Txt.lower a).cps.toList = l) (hb : (Txt.lower b).cps.toList = l') : (Txt.lower a == Txt.lower b) = decide (l = l') := by
  rw [Bool.eq_iff_iff, beq_iff_eq, decide_eq_true_eq, ← ha, ← hb]
  exact ⟨fun h => by rw [h], str_toList⟩
theorem rows_filter (W0 W1 : Str) (p : Str → Bool) (q : Str × Str → Bool) : ∀ tx : List Str, (∀ u ∈ tx, q (nmOf W0 W1 u, u) = p u) → ((rowsOf W0 W1 tx).filter q).map (·.2) = tx.filter p
  | [], _ => rfl
  | u :: r, h => by
    have ih := rows_filter W0 W1 p q r fun v hv => h v (.tail _ hv)
    have hu := h u (.head _)
    rw [show rowsOf W0 W1 (u :: r) = (nmOf W0 W1 u, u) :: rowsOf W0 W1 r from rfl, List.filter_cons, List.filter_cons, hu]
    cases p u
    · simpa using ih
    · simp [ih]
theorem filter_one {tx : List Str} {t : Str} (nd : tx.Nodup) (ht : t ∈ tx) : tx.filter (fun u => decide (u = t)) = [t] := by
  induction tx with
  | nil => cases ht
  | cons u r ih =>
    obtain ⟨hu, nd⟩ := List.nodup_cons.mp nd
    rw [List.filter_cons]
    by_cases e : u = t
    · subst e
      rw [if_pos (by simp)]
      congr 1
      refine List.filter_eq_nil_iff.mpr fun v hv => ?_
      simp only [decide_eq_true_eq]
      rintro rfl
      exact hu hv
    · rw [if_neg (by simpa using e)]
      rcases List.mem_cons.mp ht with rfl | ht
      · exact absurd rfl e
      · exact ih nd ht
theorem txs_nodup : txs.Nodup := by decide +kernel
include h0 h1 in
theorem due_ok (nc : r0 = r1 ∨ l0 ++ l1 ≠ l1 ++ l0) {t : Str} (ht : t ∈ txs) : ((rowsOf W0 W1 txs).filter fun r => Txt.lower r.1 == Txt.lower (akOf W0 W1 t)).map (·.2) = dueOf (rootOf W0 == rootOf W1) W0 W1 txs t := by
  have tt := txIs ht
  rw [rows_filter W0 W1 (fun u => decide (fl l0 l1 (toB u.cps.toList) = fl l0 l1 (toB t.cps.toList))) _ _ (fun u hu => low_eq (nm_low h0 h1 (txIs hu)) (ak_low h0 h1 tt))]
  unfold dueOf
  by_cases e : r0 = r1
  · have e' : rootOf W0 = rootOf W1 := str_toList (by rw [h0.hr, h1.hr, e])
    rw [show (rootOf W0 == rootOf W1) = true from beq_iff_eq.mpr e', if_pos rfl]
    refine List.filter_congr fun u hu => ?_
    rw [sz_eq h0 h1 (txIs hu), sz_eq h0 h1 tt, Bool.eq_iff_iff, decide_eq_true_eq, beq_iff_eq]
    obtain ⟨a, ha⟩ := h0.pow
    obtain ⟨b, hb⟩ := h1.pow
    rw [← e] at hb
    constructor
    · intro h
      rw [h]
    · intro h
      have h' : (fl l0 l1 (toB u.cps.toList)).length = (fl l0 l1 (toB t.cps.toList)).length := by omega
      rw [ha, hb] at h' ⊢
      exact fl_same r0 a b _ _ h0.pos h'
  · have e' : rootOf W0 ≠ rootOf W1 := fun h => e (by rw [← h0.hr, ← h1.hr, h])
    have nc : l0 ++ l1 ≠ l1 ++ l0 := nc.resolve_left e
    rw [show (rootOf W0 == rootOf W1) = false from beq_eq_false_iff_ne.mpr e', if_neg (by decide)]
    rw [← filter_one txs_nodup ht]
    refine List.filter_congr fun u hu => ?_
    rw [Bool.eq_iff_iff, decide_eq_true_eq, decide_eq_true_eq]
    constructor
    · intro h
      refine toB_inj t ht u hu ?_
      exact Classical.byContradiction fun hne => nc (code _ l0 l1 _ _ (Nat.le_refl _) h hne)
    · intro h
      rw [h]
include h0 h1 in
theorem lawOk (nc : r0 = r1 ∨ l0 ++ l1 ≠ l1 ++ l0) : LawOk W0 W1 txs := by
  have a0 := w_len h0
  have a1 := w_len h1
  have au : (l0.map up1).length ≤ 4 := by rw [List.length_map]; exact a0
  refine ⟨h0.ok, h1.ok, by decide, fun t ht => ?_, fun t ht => ?_, fun t ht => (txIs ht).ok, fun t ht => due_ok h0 h1 nc ht⟩
  · have tt := txIs ht
    have b := tt.len
    refine ⟨by rw [len_toList]; omega, plain_of fun d hd => by rcases tt.let' d hd with h | h <;> omega, ?_, ?_, ?_⟩
    · rw [len_toList]
      unfold rep
      rw [show Str.ofString "p" = ⟨#[112]⟩ from rfl, rep_one, up_list h0]
      have := sub1_len (c := 112) au (by omega) t.cps.toList
      omega
    · rw [len_toList, nm_list' h0 h1 tt]
      have := fl_le au a1 (toB t.cps.toList) (by simpa [toB] using b)
      omega
    · refine plain_of fun d hd => ?_
      rw [nm_list' h0 h1 tt] at hd
      exact fl_mem (P := fun d => 32 ≤ d ∧ d < 127) (fun d hd => by rcases up_let h0 d hd with h | h <;> omega) (fun d hd => by rcases h1.let' d hd with h | h <;> omega) _ d hd
  · have tt := txIs ht
    have b := tt.len
    refine ⟨by rw [len_toList]; omega, ?_, ?_, ?_, ?_⟩
    · rw [len_toList]
      unfold rep
      rw [show Str.ofString "p" = ⟨#[112]⟩ from rfl, rep_one, h0.hl]
      have := sub1_len (c := 112) a0 (by omega) t.cps.toList
      omega
    · rw [len_toList, ak_list' h0 h1 tt]
      have := fl_le a0 a1 (toB t.cps.toList) (by simpa [toB] using b)
      omega
    · rw [len_toList, ak_low h0 h1 tt]
      have := fl_le a0 a1 (toB t.cps.toList) (by simpa [toB] using b)
      omega
    · refine plain_of fun d hd => ?_
      rw [ak_low h0 h1 tt] at hd
      exact fl_mem (P := fun d => 32 ≤ d ∧ d < 127) (fun d hd => by rcases h0.let' d hd with h | h <;> omega) (fun d hd => by rcases h1.let' d hd with h | h <;> omega) _ d hd
end
theorem lawOk_all {a b : Int} (a0 : 0 ≤ a) (a1 : a < 30) (b0 : 0 ≤ b) (b1 : b < 30) : LawOk (wordOf a) (wordOf b) txs := by
  have ha : wordOf a = wordOf (a.toNat : Int) := by rw [Int.toNat_of_nonneg a0]
  have hb : wordOf b = wordOf (b.toNat : Int) := by rw [Int.toNat_of_nonneg b0]
  rw [ha, hb]
  exact lawOk (wordIs (by omega)) (wordIs (by omega)) (nc_all _ (by omega) _ (by omega))
end Mine
end
section
open PySem PySem.W PyProof.Rows
set_option Elab.async false
set_option maxRecDepth 100000
set_option maxHeartbeats 8000000
set_option pp.deepTerms true
set_option pp.proofs false
namespace Mine
local macro_rules | `(tactic| walk_at "none at all") => `(tactic| fail)
local macro_rules | `(tactic| walk_at "none at all") => `(tactic| fail)
local macro_rules | `(tactic| walk_at "none at all") => `(tactic| fail)
local macro_rules | `(tactic| walk_at "none at all") => `(tactic| fail)
local macro_rules | `(tactic| walk_at "none at all") => `(tactic| fail)
local macro_rules | `(tactic| walk_at "eval ListComp") => `(tactic| (k_here; k_dflt (refine ListComp_Z (F₀ := by k_asm) (by with_unfolding_all rfl) (by decide) (by rfl) (by decide) (by rfl) (by rfl) (by decide) ?_)))
local macro_rules | `(tactic| walk_at "call type:zip") => `(tactic| (k_here; refine Hold.out ?_))
local macro_rules | `(tactic| walk_at "call ref") => `(tactic| (k_here; (with_reducible show wpAny _ _ (call (Value.ref 205) _ _) _ _ _); k_dflt (refine' lword _ _ _ _ _ _ _ _ _ _ _ _ _ _ _ _ _ _ _ ?B ?F ?X ?T ?kK ?kd ?ku trivial ?_; (case B => k_asm); (case F => k_asm); (case X => k_asm); (case T => k_asm); (case kK => first | exact rfl | assumption); (case kd => ktr_room); (case ku => ktr_units); k_whole); (with_reducible rename News _ _ _ _ => N9'); intro t9 h9 tk9 F9 k9; (replace N9' := news_kept N9' k9); clear k9; (try dsimp only); (try k_fold)))
local macro_rules | `(tactic| walk_at "exec For") => `(tactic| (k_here; (with_reducible show wpAny _ _ (exec (Stmt.For _ (PySem.Expr.BinOp _ _ _ _) _ [] _) _) _ _ _); (with_reducible rename Fr _ _ _ _ => lF'); (with_unfolding_all refine' For_invVF lF' ?k1 ?k2 ?_; (case k1 => exact rfl); (case k2 => exact rfl); k_whole)))
local macro_rules | `(tactic| walk_at "exec For") => `(tactic| (k_here; (with_reducible rename Unit => u9'); clear u9'; refine Hold.out ?_))
local macro_rules | `(tactic| walk_at "inplaceOp Add ref ref") => `(tactic| (k_here; k_dflt (refine' iadd_list ?F ?N ?U ?hb ?hy ?hz ?_; (case F => k_asm); (case N => k_asm); (case U => k_upd); (case hb => k_mem); (case hy => exact Nat.le_of_ble_eq_true rfl); (case hz => exact Nat.le_of_ble_eq_true rfl); k_whole); intro h' F' N'; (try simp only [List.cons_append, List.nil_append] at N'); (try k_sweep)))
local macro_rules | `(tactic| walk_at "execs cons") => `(tactic| (k_here; (with_reducible show wpAny _ _ (execs (Stmt.For (PySem.Expr.Name _ _) (PySem.Expr.Name _ _) _ [] _ :: _) _) _ _ _); refine Hold.out ?_))
theorem pick7 {h₀ h : Heap} {L : Addr} {a b c d e f g : Addr × Obj} {r : List (Addr × Obj)} (N : News h₀ L h (a :: b :: c :: d :: e :: f :: g :: r)) : News h₀ L h (a :: r) := fun p hp => by
  rcases List.mem_cons.mp hp with rfl | hp
  · exact N _ (.head _)
  · exact N _ (.tail _ (.tail _ (.tail _ (.tail _ (.tail _ (.tail _ (.tail _ hp)))))))
theorem pickG {h₀ h : Heap} {L : Addr} {a b c d1 d2 d3 d4 d5 d6 d7 d8 d9 : Addr × Obj} {r : List (Addr × Obj)} (N : News h₀ L h (a :: b :: c :: d1 :: d2 :: d3 :: d4 :: d5 :: d6 :: d7 :: d8 :: d9 :: r)) : News h₀ L h (a :: b :: c :: r) := fun p hp => by
  rcases List.mem_cons.mp hp with rfl | hp
  · exact N _ (.head _)
  rcases List.mem_cons.mp hp with rfl | hp
  · exact N _ (.tail _ (.head _))
  rcases List.mem_cons.mp hp with rfl | hp
  · exact N _ (.tail _ (.tail _ (.head _)))
  · exact N _ (by iterate 12 apply List.Mem.tail
                  exact hp)
theorem off1 {D : Addr} {l : List (Addr × Obj)} (h : ∀ p ∈ l, p.1 ≠ D) : LCg.Off1 D l := by
  induction l with
  | nil => exact trivial
  | cons p r ih => exact ⟨h p (.head _), ih fun q hq => h q (.tail _ hq)⟩
theorem two_strs {ys : List Value} {x y : Str} (h : StrsAre ys [x, y]) : ∃ t u, ys = [.str x t, .str y u] := by
  cases h with
  | cons _ t h =>
    cases h with
    | cons _ u h =>
      cases h
      exact ⟨t, u, rfl⟩
def scr (l : List Int) : List Int := l.take 2 ++ [0, 0]
def wordsOf (l : List Int) : List Str := [wordOf (Int.fmod (4 + (scr l).getD 0 0) 30), wordOf (Int.fmod (24 + (scr l).getD 1 0) 30)]
theorem law02 : PySem.Challenge.rw_pg0249_02.Holds := Mine.hd2 (by
  have hold0 : Unit := ()
  k_go0
  (all_goals try k_fold)
  (with_reducible rename IntsAre _ _ => hI0)
  (with_reducible rename List Int => scr0)
  k_steps
  refine Hold.mk ?_
  (with_reducible rename IntsAre _ (_ ++ _) => hI2)
  have hI3 : IntsAre _ (scr scr0) := hI2
  have hl3 := hI3.length
  refine SrcZ.call (n := 2) (J := fun i ys => StrsAre ys ((wordsOf scr0).take i)) (by rfl) (by k_asm) (by k_asm) (by k_mem) (by k_mem) (by decide) ?_ .nil ?_ ?_
  · rw [hl3]
    simp [scr]
  · intro z TI TO i1 i2 i ys' v₁ v₂ g e1 e2 j hyl oz oTI oTO o1 o2 C oC D m₂ h tk E' hC hx hx2 F N
    obtain ⟨a, ta, rfl, ha⟩ := ints_get hI3 e2
    have ea : a = (scr scr0).getD i 0 := by simp [List.getD, ha]
    subst ea
    refine wpAny_tests_nil ?_
    rw [if_pos rfl]
    rcases i with _ | _ | i
    · simp only [List.getElem?_cons_zero, Option.some.injEq] at e1
      subst e1
      k_steps
      (with_reducible rename News _ _ _ _ => N9)
      exact TurnEnd.intro (by k_asm) N9 (fun _ hp => hp) (strs_snoc j _ _)
    · simp only [List.getElem?_cons_zero, List.getElem?_cons_succ, Option.some.injEq] at e1
      subst e1
      k_steps
      (with_reducible rename News _ _ _ _ => N9)
      exact TurnEnd.intro (by k_asm) N9 (fun _ hp => hp) (strs_snoc j _ _)
    · simp at e1
  · intro D ys' h tk j F N off
    obtain ⟨t1, t2, rfl⟩ := two_strs j
    replace off := off1 off
    simp only [LCg.Off1, and_true] at off
    k_steps
    refine Hold.mk ?_
    (with_reducible rename News _ _ _ _ => N1)
    have N2 := pick7 N1
    clear N1
    k_steps
    refine Hold.mk ?_
    (with_reducible rename Fr _ _ _ _ => F9)
    (with_reducible rename News _ _ _ _ => N9)
    have N8 := pickG N9
    clear N9
    with_unfolding_all refine' tail4 _ _ _ _ _ _ _ _ _ _ _ _ _ _ _ _ _ txs _ _ _ _ _ _ _ ?kB F9 ?kX ?kT N8 ?k1 ?k2 ?k3 ?k4 ?k5 ?k6 ?k7 ?k8 ?k9 ?k10 ?kS ?kok ?kE ?kret
    case kB => k_asm
    case kX => k_asm
    case kT => k_asm
    case k1 => assumption
    case k2 => assumption
    case k3 => exact ⟨_, by assumption⟩
    case k4 => first | exact if_pos rfl | exact (if_neg (by decide)).trans (if_pos rfl)
    case k5 => exact if_pos rfl
    case k6 => ((repeat ((with_reducible rename _ ∧ _ => hh9); obtain ⟨_, _⟩ := hh9)); assumption)
    case k7 => ((repeat ((with_reducible rename _ ∧ _ => hh9); obtain ⟨_, _⟩ := hh9)); assumption)
    case k8 => ((repeat ((with_reducible rename _ ∧ _ => hh9); obtain ⟨_, _⟩ := hh9)); assumption)
    case k9 => ((repeat ((with_reducible rename _ ∧ _ => hh9); obtain ⟨_, _⟩ := hh9)); assumption)
    case k10 => ((repeat ((with_reducible rename _ ∧ _ => hh9); obtain ⟨_, _⟩ := hh9)); assumption)
    case kS => exact .cons _ _ (.cons _ _ (.cons _ _ (.cons _ _ (.cons _ _ (.cons _ _ (.cons _ _ (.cons _ _ (.cons _ _ (.cons _ _ (.cons _ _ (.cons _ _ (.cons _ _ (.cons _ _ .nil)))))))))))))
    case kok => exact lawOk_all (Int.fmod_nonneg_of_pos _ (by decide)) (Int.fmod_lt_of_pos _ (by decide)) (Int.fmod_nonneg_of_pos _ (by decide)) (Int.fmod_lt_of_pos _ (by decide))
    case kE => first | assumption | passes_own
    case kret =>
      intro h9 tk9 m9 n9 F9' N9'
      k_steps)
end Mine
end
theorem PySem.Challenge.cw_pg0249_02_holds : PySem.Challenge.rw_pg0249_02.Holds := by
  exact Mine.law02
