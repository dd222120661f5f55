import PyProof.Rows.All
import Wide.All
import OpenK.AllK
import Wide.FinOn
import PySem.Challenge.RW_pg0249_01
set_option Elab.async false
section
open PySem PySem.W PyProof.Rows
set_option Elab.async false
set_option maxRecDepth 100000
set_option maxHeartbeats 8000000
namespace Mine
open_top hd1 for PySem.Challenge.rw_pg0249_01
end Mine
end
theorem Mine.topOff : True := by
  w_top off
  trivial
section
open PySem PySem.W PyProof.Rows PyProof.V PySem.Calls
set_option Elab.async false
set_option maxRecDepth 100000
namespace Mine
section
open Builtin Builtin.Str
/-- str.find with both bounds -/
def F4 (x y : Str) (lo hi : Nat) : Int := match occurrences x y lo hi 1 with | k :: _ => (k : Int) | [] => -1
theorem gives_find4 (x y : Str) (i j : Int) (t u v v' : Tok) : Gives («str.find» ⟨[.str x t, .str y u, .int i v, .int j v'], []⟩) (.int (F4 x y (fromIndex x.length i) (min (fromIndex x.length j) x.length))) := by
  show Gives (match occurrences x y (fromIndex x.length i) (min (fromIndex x.length j) x.length) 1 with | k :: _ => retInt k | [] => (do rule "str.find.not-found"; retInt (-1))) _
  unfold F4
  cases occurrences x y (fromIndex x.length i) (min (fromIndex x.length j) x.length) 1 with
  | nil => exact .rule (.of_eq rfl)
  | cons k _ => exact .of_eq rfl
theorem find4 {prog : Program} {w : World} {A : Around} {E : Value → Shared → Prop} {s : Shared} {Q : Value → Shared → Prop} {x y : Str} {i j : Int} {t u v v' : Tok} (hi : 0 ≤ i) (hj : 0 ≤ j) (hjx : j ≤ x.length)
    (hq : Q (.int (F4 x y i.toNat j.toNat) s.toks) { s with toks := s.toks + 1 }) : wpAny (model prog w) A (call (.builtin "str.find") [.str x t, .str y u, .int i v, .int j v']) Q E s := by
  refine call_gives F.slot_str_find (typeIs_str _ _ _) F.entry_str_find (F.args_str_find_4 _ _ _ _) (gives_find4 x y i j t u v v') ?_
  have e1 : fromIndex x.length i = i.toNat := by unfold fromIndex; rw [if_neg (by omega)]; omega
  have e2 : min (fromIndex x.length j) x.length = j.toNat := by unfold fromIndex; rw [if_neg (by omega)]; omega
  rw [e1, e2]
  exact hq
def occGo (s sub : Str) (hi limit : Nat) : List Nat → Nat → Nat → List Nat
  | [], _, _ => []
  | i :: r, free, k => if k < limit ∧ free ≤ i ∧ i + sub.length ≤ hi ∧ subAt s sub i = true then i :: occGo s sub hi limit r (i + sub.length) (k + 1) else occGo s sub hi limit r free k
theorem occGo_eq (s sub : Str) (hi limit : Nat) : ∀ (l : List Nat) (st : Array Nat × Nat), (forIn (m := Id) l st (StrLaws.occBody s sub hi limit)).run.fst.toList = st.fst.toList ++ occGo s sub hi limit l st.snd st.fst.size := by
  intro l
  induction l with
  | nil => intro st; simp [occGo]
  | cons i r ih =>
    intro st
    simp only [List.forIn_cons, StrLaws.occBody, occGo]
    by_cases h : ((st.fst.size < limit ∧ st.snd ≤ i) ∧ i + sub.length ≤ hi) ∧ subAt s sub i = true
    · rw [if_pos (by simpa [and_assoc] using h), if_pos (by simpa [and_assoc] using h)]
      have := ih (st.fst.push i, i + sub.length)
      simp only [Array.toList_push, Array.size_push, List.append_assoc, List.cons_append, List.nil_append] at this
      exact this
    · rw [if_neg (by simpa [and_assoc] using h), if_neg (by simpa [and_assoc] using h)]
      exact ih st
theorem occ_go (s sub : Str) (lo hi limit : Nat) : occurrences s sub lo hi limit = occGo s sub hi limit (List.range' lo (hi + 1 - lo)) lo 0 := by
  rw [StrLaws.occ_eq, occGo_eq]
  simp
theorem F4_nil (x : Str) (lo hi : Nat) (h : lo ≤ hi) : F4 x (Str.ofString "") lo hi = lo := by
  unfold F4
  rw [occ_go]
  have e : hi + 1 - lo = (hi - lo) + 1 := by omega
  rw [e, List.range'_succ]
  have : subAt x (Str.ofString "") lo = true := by
    rw [StrLaws.subAt_eq]
    simp [Str.ofString, Str.length]
    rfl
  simp only [occGo]
  rw [if_pos ⟨by omega, Nat.le_refl _, by have : (Str.ofString "").length = 0 := by decide
                                          omega, this⟩]
end
section
/-- the heap behind a tree of looks and one new object (the library's peekA): all that stood before it stands -/
theorem peekA_keeps {α : Type} {K : Frag} {M : Model} {A : Around} {E : Value → Shared → Prop} {Q : α → Shared → Prop} {s : Shared} {o : Obj} (X : K.In s.heap) :
    ∀ (t : Sem α) (g : Addr → Sem α), peekA K ⟨M.prog, M.w.params⟩ t = some (o, g) → wpAny M A (g s.heap.objs.size) Q E { s with heap := s.heap.push o } → wpAny M A t Q E s
  | .rule _ k, g, e, q => fun Γ p hΓ => peekA_keeps X (k ()) g e q Γ p hΓ
  | .point _ k, g, e, q => fun Γ p hΓ => peekA_keeps X (k ()) g e q Γ p hΓ
  | .ask k, g, e, q => fun Γ p hΓ => peekA_keeps X (k _) g e q Γ p hΓ
  | .load a _ k, g, e, q => fun Γ p hΓ => by
    cases ho : K.lookup a with
    | none => simp [peekA, ho] at e
    | some ob => exact ⟨ob, X _ _ ho, peekA_keeps X (k ob) g (by simpa [peekA, ho] using e) q Γ p hΓ⟩
  | .alloc ob k, g, e, q => by
    have e' : ob = o ∧ k = g := by simpa [peekA] using e
    obtain ⟨rfl, rfl⟩ := e'
    show wpAny M A (alloc ob >>= k) Q E s
    exact wpAny_bind (wpAny_alloc q)
  | .pure _, g, e, _ | .raise _, g, e, _ | .unsupported _, g, e, _ | .finish _, g, e, _ | .at _ _, g, e, _ | .update _ _ _ _, g, e, _ | .loadIfAlive _ _, g, e, _ | .register _ _, g, e, _ | .fresh _, g, e, _ | .choose _ _ _, g, e, _ | .os _ _ _, g, e, _
  | .call _ _ _ _ _, g, e, _ | .handled _ _, g, e, _ | .newGen _ _, g, e, _ | .genState _ _, g, e, _ | .resume _ _ _ _, g, e, _ | .yield _ _ _ _, g, e, _ | .stack _, g, e, _ | .fork _ _, g, e, _ | .thread _, g, e, _ | .await _ _ _ _ _, g, e, _ => by simp [peekA] at e
variable {prog : Program} {w : World} {A A₀ : Around} {s : Shared} {K : Frag} {L : Addr} {h₀ base : Heap} {m mg mb : Str → Option Value} {news : List (Addr × Obj)} {p : Program} {loose : List Str} {mean : ExcName → Option Value}
/-- what a def's body is asked, its frame laid at L' over the ground g -/
abbrev Body (prog : Program) (w : World) (A : Around) (K : Frag) (p : Program) (loose : List Str) (mean : ExcName → Option Value) (mg mb : Str → Option Value) (h₀ base : Heap) (outer : List Env) (env : Env) (L : Addr) (m : Str → Option Value) (h : Heap) (news led : List (Addr × Obj)) (R : Result → Shared → Prop) (s : Shared) (body : List Stmt) (e : Addr → Env) (binds : List (Str × Value)) : Prop :=
  ∀ g L' h₁ tk, (∀ b o, h.get? b = some o → b ∉ news.map (·.1) → g.get? b = some o) → (∀ p ∈ led, p.1 < L') → Fr h₀ L g m → Fr g L' h₁ (fun y => binds.reverse.lookup y) → News g L' h₁ led → Below A base (env :: outer) g → K.In g → Top p loose mean mg mb g →
      wpAny (model prog w) (A.deeper (e L')) (execs body (e L'))
        (fun fl s' => LeaveK h₀ L m g R (match fl with | .ret v => v | _ => .none) s')
        (fun x s' => wpAny (model prog w) (A.deeper (e L')) (leaving (e L') x) (fun _ s'' => R (.error x) s'') (fun e' s'' => R (.error e') s'') s')
        { s with heap := h₁, toks := tk }
theorem frame_sub {env : Env} {outer : List Env} {R : Result → Shared → Prop} {E : Value → Shared → Prop} {qual : Str} {body : List Stmt} {scope : Scope} {cdv : Value} {f : Addr} {binds : List (Str × Value)}
    (B : Below A₀ base outer h₀) (F : Fr h₀ L s.heap m) (X₀ : K.In h₀) (N : News h₀ L s.heap news) (T : Top p loose mean mg mb h₀) (hA : A.frames = some (env :: outer)) (hf : env.frame = some L) (hke : env.scope.kind = .function)
    (hloc : ∀ y ∈ binds, scope.names.lookup y.1 = some .local) (h : Body prog w A K p loose mean mg mb h₀ base outer env L m s.heap news news R s body (fun L' => envOf qual scope L' f cdv) binds)
    (hk : scope.kind = .function) (hcell : ∀ x ∈ scope.names, x.2 ≠ .cell) :
    wpAny (model prog w) A.in1 (newFunctionEnv scope mainGlobals [] binds (qual ++ ".<locals>.") (some f) cdv none builtinsNs) (fun env' s₂ => s₂.heap.NoLimit ∧ codeAny (model prog w) A (.func body env') R s₂) E s := by
  obtain ⟨FG, BG, st, lv⟩ := groundX (R := R) B F N hA hf hke
  have kn : ∀ b o, h₀.get? b = some o → (hideAll s.heap (news.map (·.1))).get? b = some o := fun b o e => st b o e
  refine wpAny_newFunctionEnv hcell hloc (fun h₁ hns hsb => ⟨(T.nolimit.keeps F.keep).fresh _ hsb, codeAny_func ?_⟩) hk
  have ext : ∀ b o, s.heap.get? b = some o → h₁.get? b = some o := fun b o e => hsb.extBut b o (Nat.ne_of_lt (Heap.lt_size e)) (Heap.get?_push_of_some _ e)
  refine wpAny_mono (h (hideAll s.heap (news.map (·.1))) s.heap.objs.size h₁ _ (fun b o e n => hideAll_get _ e n) (fun p hp => Heap.lt_size (N p hp).1) FG ⟨hns, fun b o e => ext b o (of_hideAll _ e), Nat.le_of_eq (hideAll_size _ _)⟩ ?_ BG (X₀.keeps kn) (T.keeps kn)) (fun fl s' hl => lv _ _ hl) fun _ _ y => y
  exact fun p hp => ⟨ext _ _ (N p hp).1, Nat.ne_of_lt (Heap.lt_size (N p hp).1), hideAll_none _ (List.mem_map_of_mem hp)⟩
/-- a def with plain parameters -/
theorem code_sub {env : Env} {outer : List Env} {R : Result → Shared → Prop} {name qual : Str} {params : Arguments} {body : List Stmt} {scope : Scope} {dV kV doc pm cdv ct oc : Value} {an od : Option Addr} {osl : Array (Option Value)} {f : Addr} {args : Args} {binds : List (Str × Value)}
    (B : Below A₀ base outer h₀) (F : Fr h₀ L s.heap m) (X₀ : K.In h₀) (N : News h₀ L s.heap news) (T : Top p loose mean mg mb h₀) (hA : A.frames = some (env :: outer)) (hf : env.frame = some L) (hke : env.scope.kind = .function)
    (ho : K.lookup f = some ⟨oc, od, .func (fnOf name qual params body scope dV kV doc pm an cdv ct), osl⟩) (hcd : codeIn K cdv qual = true) (hroom : A.depth < recursionLimit)
    (hbind : BindsTo s (fnOf name qual params body scope dV kV doc pm an cdv ct) args binds) (hloc : ∀ y ∈ binds, scope.names.lookup y.1 = some .local)
    (h : Body prog w A K p loose mean mg mb h₀ base outer env L m s.heap news news R s body (fun L' => envOf qual scope L' f cdv) binds)
    (hco : scope.isCoroutine = false) (hgen : scope.isGenerator = false) (hk : scope.kind = .function)
    (hcell : ∀ x ∈ scope.names, x.2 ≠ .cell) : codeAny (model prog w) A (.call (.ref f) args) R s := by
  refine codeAny_call_function (fd := fnOf name qual params body scope dV kV doc pm an cdv ct) (body := body) hroom ((X₀.keeps F.keep) _ _ ho) rfl hco hgen rfl (codeRec_of (X₀.keeps F.keep) hcd) (hbind _ _ _ _ ?_)
  exact frame_sub B F X₀ N T hA hf hke hloc h hk hcell
/-- a def some of whose names are cells -/
theorem code_subC {env : Env} {outer : List Env} {R : Result → Shared → Prop} {name qual : Str} {params : Arguments} {body : List Stmt} {scope : Scope} {dV kV doc pm cdv ct oc : Value} {an od : Option Addr} {osl : Array (Option Value)} {f : Addr} {args : Args} {binds : List (Str × Value)}
    (B : Below A₀ base outer h₀) (F : Fr h₀ L s.heap m) (X₀ : K.In h₀) (N : News h₀ L s.heap news) (T : Top p loose mean mg mb h₀) (hA : A.frames = some (env :: outer)) (hf : env.frame = some L) (hke : env.scope.kind = .function)
    (ho : K.lookup f = some ⟨oc, od, .func (fnOf name qual params body scope dV kV doc pm an cdv ct), osl⟩) (hcd : codeIn K cdv qual = true) (hroom : A.depth < recursionLimit)
    (hbind : BindsTo s (fnOf name qual params body scope dV kV doc pm an cdv ct) args binds) (hkind : (binds.all fun y => scope.names.lookup y.1 == some .local || scope.names.lookup y.1 == some .cell) = true)
    (hnd : ((cellsFrom 0 scope.names []).map (·.1)).Nodup)
    (h : ∀ g L' h₁ tk cells, (∀ b o, s.heap.get? b = some o → b ∉ news.map (·.1) → g.get? b = some o) → (∀ p ∈ news, p.1 < L') → Fr h₀ L g m → Fr g L' h₁ (bindL (envOfC qual scope L' f cdv).kindOf binds fun _ => none) → News g L' h₁ (cells ++ news) →
      CellsAre (bindC (envOfC qual scope L' f cdv).kindOf binds fun _ => none) (cellsFrom (L' + 1) scope.names []) cells → Below A base (env :: outer) g → K.In g → Top p loose mean mg mb g →
      wpAny (model prog w) (A.deeper (envOfC qual scope L' f cdv)) (execs body (envOfC qual scope L' f cdv))
        (fun fl s' => LeaveK h₀ L m g R (match fl with | .ret v => v | _ => .none) s')
        (fun e s' => wpAny (model prog w) (A.deeper (envOfC qual scope L' f cdv)) (leaving (envOfC qual scope L' f cdv) e) (fun _ s'' => R (.error e) s'') (fun e' s'' => R (.error e') s'') s')
        { s with heap := h₁, toks := tk })
    (hco : scope.isCoroutine = false) (hgen : scope.isGenerator = false) (hk : scope.kind = .function) : codeAny (model prog w) A (.call (.ref f) args) R s := by
  obtain ⟨FG, BG, st, lv⟩ := groundX (R := R) B F N hA hf hke
  have kn : ∀ b o, h₀.get? b = some o → (hideAll s.heap (news.map (·.1))).get? b = some o := fun b o e => st b o e
  refine codeAny_call_function (fd := fnOf name qual params body scope dV kV doc pm an cdv ct) (body := body) hroom ((X₀.keeps F.keep) _ _ ho) rfl hco hgen rfl (codeRec_of (X₀.keeps F.keep) hcd) (hbind _ _ _ _ ?_)
  refine wpAny_newFunctionEnv_cells hk (kindsX hkind _) fun env' he s' x => ?_
  subst he
  have ext := x.toInCall.keep
  refine ⟨(T.nolimit.keeps F.keep).keeps ext, codeAny_func ?_⟩
  obtain ⟨h₁, tk, rfl, _⟩ := x.done
  obtain ⟨cells, NC, Y⟩ := Cl.news (h₀ := s.heap) (Nat.le_refl _) fun n c hm => ⟨x.cell n c (lookup_of_mem_nodup (cellsFrom_names scope.names 0 (s.heap.objs.size + 1) [] [] rfl ▸ hnd) hm), x.above n c hm⟩
  refine wpAny_mono (h (hideAll s.heap (news.map (·.1))) s.heap.objs.size h₁ tk cells (fun b o e n => hideAll_get _ e n) (fun p hp => Heap.lt_size (N p hp).1) FG ⟨x.toInCall.ns, fun b o e => ext b o (of_hideAll _ e), Nat.le_of_eq (hideAll_size _ _)⟩ (fun q hq => ?_) Y BG (X₀.keeps kn) (T.keeps kn)) (fun fl s' hl => lv _ _ hl) fun _ _ y => y
  rcases List.mem_append.mp hq with hq | hq
  · have hn : (hideAll s.heap (news.map (·.1))).get? q.1 = none := by
      cases e : (hideAll s.heap (news.map (·.1))).get? q.1 with
      | none => rfl
      | some o => have z := of_hideAll _ e; rw [(NC q hq).2.2] at z; cases z
    exact ⟨(NC q hq).1, (NC q hq).2.1, hn⟩
  · exact ⟨ext _ _ (N q hq).1, Nat.ne_of_lt (Heap.lt_size (N q hq).1), hideAll_none _ (List.mem_map_of_mem hq)⟩
/-- a def with a star parameter -/
theorem code_rest {env : Env} {outer : List Env} {R : Result → Shared → Prop} {name qual : Str} {params : Arguments} {body : List Stmt} {scope : Scope} {dV kV doc pm cdv ct oc : Value} {an od : Option Addr} {osl : Array (Option Value)} {f : Addr} {args : Args} {vs : List Value} {binds : Addr → List (Str × Value)}
    (B : Below A₀ base outer h₀) (F : Fr h₀ L s.heap m) (X₀ : K.In h₀) (N : News h₀ L s.heap news) (T : Top p loose mean mg mb h₀) (hA : A.frames = some (env :: outer)) (hf : env.frame = some L) (hke : env.scope.kind = .function)
    (ho : K.lookup f = some ⟨oc, od, .func (fnOf name qual params body scope dV kV doc pm an cdv ct), osl⟩) (hcd : codeIn K cdv qual = true) (hroom : A.depth < recursionLimit)
    (hp : peekA K ⟨prog, w.params⟩ (bindArgs (fnOf name qual params body scope dV kV doc pm an cdv ct) args) = some (({ cls := .type "tuple", data := .seq vs.toArray } : Obj), fun D => pure (binds D)))
    (hloc : ∀ D, ∀ y ∈ binds D, scope.names.lookup y.1 = some .local)
    (h : ∀ D, (∀ p ∈ news, p.1 < D) → (∀ b o, s.heap.get? b = some o → b ≠ D) → Body prog w A K p loose mean mg mb h₀ base outer env L m s.heap news ((D, ({ cls := .type "tuple", data := .seq vs.toArray } : Obj)) :: news) R s body (fun L' => envOf qual scope L' f cdv) (binds D))
    (hco : scope.isCoroutine = false) (hgen : scope.isGenerator = false) (hk : scope.kind = .function)
    (hcell : ∀ x ∈ scope.names, x.2 ≠ .cell) : codeAny (model prog w) A (.call (.ref f) args) R s := by
  refine codeAny_call_function (fd := fnOf name qual params body scope dV kV doc pm an cdv ct) (body := body) hroom ((X₀.keeps F.keep) _ _ ho) rfl hco hgen rfl (codeRec_of (X₀.keeps F.keep) hcd) ?_
  refine peekA_keeps (M := model prog w) (X₀.keeps F.keep) _ _ hp (wpAny_pure ?_)
  refine frame_sub (s := { s with heap := s.heap.push _ }) B (F.push _) X₀ (News.push F N _) T hA hf hke (hloc _) (fun g L' h₁ tk a1 a2 a3 a4 a5 a6 a7 a8 => ?_) hk hcell
  refine h s.heap.objs.size (fun p hp => Heap.lt_size (N p hp).1) (fun b o e => Nat.ne_of_lt (Heap.lt_size e)) g L' h₁ tk (fun b o e n => a1 b o (Heap.get?_push_of_some _ e) ?_) a2 a3 a4 a5 a6 a7 a8
  rw [List.map_cons, List.mem_cons]
  rintro (q | q)
  · have := Heap.lt_size e
    exact absurd q (Nat.ne_of_lt this)
  · exact n q
/-- a def with a double star parameter, no such argument given -/
theorem code_more0 {env : Env} {outer : List Env} {R : Result → Shared → Prop} {name qual : Str} {params : Arguments} {body : List Stmt} {scope : Scope} {dV kV doc pm cdv ct oc : Value} {an od : Option Addr} {osl : Array (Option Value)} {f : Addr} {args : Args} {binds : Addr → List (Str × Value)}
    (B : Below A₀ base outer h₀) (F : Fr h₀ L s.heap m) (X₀ : K.In h₀) (N : News h₀ L s.heap news) (T : Top p loose mean mg mb h₀) (hA : A.frames = some (env :: outer)) (hf : env.frame = some L) (hke : env.scope.kind = .function)
    (ho : K.lookup f = some ⟨oc, od, .func (fnOf name qual params body scope dV kV doc pm an cdv ct), osl⟩) (hcd : codeIn K cdv qual = true) (hroom : A.depth < recursionLimit)
    (hp : peekA K ⟨prog, w.params⟩ (bindArgs (fnOf name qual params body scope dV kV doc pm an cdv ct) args) = some (dictOf [] 0, fun D => pure (binds D)))
    (hloc : ∀ D, ∀ y ∈ binds D, scope.names.lookup y.1 = some .local)
    (h : ∀ D o, (∀ p ∈ news, p.1 < D) → (∀ b o, s.heap.get? b = some o → b ≠ D) → (D == sysModules) = false → o.IsDictOf (strKind prog w) [] → FlatPairs PyData.str [] [] → Body prog w A K p loose mean mg mb h₀ base outer env L m s.heap news ((D, o) :: news) R s body (fun L' => envOf qual scope L' f cdv) (binds D))
    (hco : scope.isCoroutine = false) (hgen : scope.isGenerator = false) (hk : scope.kind = .function)
    (hcell : ∀ x ∈ scope.names, x.2 ≠ .cell) : codeAny (model prog w) A (.call (.ref f) args) R s := by
  refine codeAny_call_function (fd := fnOf name qual params body scope dV kV doc pm an cdv ct) (body := body) hroom ((X₀.keeps F.keep) _ _ ho) rfl hco hgen rfl (codeRec_of (X₀.keeps F.keep) hcd) ?_
  refine peekA_keeps (M := model prog w) (X₀.keeps F.keep) _ _ hp (wpAny_pure ?_)
  refine frame_sub (s := { s with heap := s.heap.push _ }) B (F.push _) X₀ (News.push F N _) T hA hf hke (hloc _) (fun g L' h₁ tk a1 a2 a3 a4 a5 a6 a7 a8 => ?_) hk hcell
  refine h s.heap.objs.size (dictOf [] 0) (fun p hp => Heap.lt_size (N p hp).1) (fun b o e => Nat.ne_of_lt (Heap.lt_size e)) (F.notModules (modules_low T.nolimit)) (kp_isDict (ex := []) 0 0 List.nodup_nil) .nil g L' h₁ tk (fun b o e n => a1 b o (Heap.get?_push_of_some _ e) ?_) a2 a3 a4 a5 a6 a7 a8
  rw [List.map_cons, List.mem_cons]
  rintro (q | q)
  · have := Heap.lt_size e
    exact absurd q (Nat.ne_of_lt this)
  · exact n q
end
/-- a call that keeps every object that stood before it and hands back one value -/
abbrev Pur (prog : Program) (w : World) (K : Frag) (p : Program) (loose : List Str) (mean : ExcName → Option Value) (mg mb : Str → Option Value) (D U : Nat) (f : Addr) (vs : List Value) (pre : Heap → Prop) (R : Tok → Value) : Prop :=
  ∀ (dp un : Nat) (gd : Option (List Code)) (cn : Str) (cs : Scope) (a : Addr) (ccd : Value) (cl : List (Str × Addr)) (outer : List Env) (A₀ : Around) (base h₀ : Heap) (L : Addr) (m : Str → Option Value) (s : Shared) (Q E : Value → Shared → Prop),
    Below A₀ base outer h₀ → Fr h₀ L s.heap m → K.In h₀ → Top p loose mean mg mb h₀ → cs.kind = .function → dp + D < recursionLimit → un + U < cLine → pre s.heap →
    (∀ (t : Tok) (h' : Heap) (tk' : Nat), Fr h₀ L h' m → (∀ b o, s.heap.get? b = some o → h'.get? b = some o) → Q (R t) { s with heap := h', toks := tk' }) →
    wpAny (model prog w) (ktrTop dp un gd cn cs L a ccd cl outer) (call (.ref f) vs) Q E s
abbrev PurK (prog : Program) (w : World) (K : Frag) (p : Program) (loose : List Str) (mean : ExcName → Option Value) (mg mb : Str → Option Value) (D U : Nat) (f : Addr) (vs : List Value) (kw : List (Str × Value)) (pre : Heap → Prop) (R : Tok → Value) : Prop :=
  ∀ (dp un : Nat) (gd : Option (List Code)) (cn : Str) (cs : Scope) (a : Addr) (ccd : Value) (cl : List (Str × Addr)) (outer : List Env) (A₀ : Around) (base h₀ : Heap) (L : Addr) (m : Str → Option Value) (s : Shared) (Q E : Value → Shared → Prop),
    Below A₀ base outer h₀ → Fr h₀ L s.heap m → K.In h₀ → Top p loose mean mg mb h₀ → cs.kind = .function → dp + D < recursionLimit → un + U < cLine → pre s.heap →
    (∀ (t : Tok) (h' : Heap) (tk' : Nat), Fr h₀ L h' m → (∀ b o, s.heap.get? b = some o → h'.get? b = some o) → Q (R t) { s with heap := h', toks := tk' }) →
    wpAny (model prog w) (ktrTop dp un gd cn cs L a ccd cl outer) (call (.ref f) vs kw) Q E s
theorem news_kept {h₀ h h' : Heap} {L : Addr} {news : List (Addr × Obj)} (N : News h₀ L h news) (k : ∀ b o, h.get? b = some o → h'.get? b = some o) : News h₀ L h' news := fun p hp => ⟨k _ _ (N p hp).1, (N p hp).2⟩
end Mine
namespace Mine
section
variable {prog : Program} {w : World} {A : Around} {E : Value → Shared → Prop} {s : Shared} {h₀ : Heap} {L : Addr} {m : Str → Option Value} {news : List (Addr × Obj)}
/-- t[a:] of a tuple of the ledger -/
theorem slice_tup {value slice : PySem.Expr} {l : Addr} {items : List Value} {n a : Nat} {u : Tok} {Q : Value → Shared → Prop}
    (F : Fr h₀ L s.heap m) (N : News h₀ L s.heap news) (hm : (l, ({ cls := .type "tuple", data := .seq items.toArray n } : Obj)) ∈ news) (h1 : 1 ≤ a) (ha : a ≤ items.length) (hz : items.length ≤ 1000)
    (h : ∀ D h', Fr h₀ L h' m → News h₀ L h' ((D, ({ cls := .type "tuple", data := .seq (items.drop a).toArray } : Obj)) :: news) → (∀ p ∈ news, p.1 < D) → Q (.ref D) { s with heap := h' })
    (hs : subscripted slice false (.ref l) (.ref s.heap.objs.size) = operate [.ref s.heap.objs.size, .ref l] (getItem (.ref l) (.ref s.heap.objs.size)))
    (ht : ∀ r, letTemporaryGo value (.ref l) r = pure ()) :
    wpAny (model prog w) A (subscriptTail value slice (.ref l) (.ref s.heap.objs.size)) Q E { s with heap := s.heap.push { cls := .type "slice", data := .fields #[.int a u, .none, .none] } } := by
  have k0 : ∀ b o, s.heap.get? b = some o → (s.heap.push { cls := .type "slice", data := .fields #[.int a u, .none, .none] }).get? b = some o := fun _ _ e => Heap.get?_push_of_some _ e
  have hT : IsTup (s.heap.push { cls := .type "slice", data := .fields #[.int a u, .none, .none] }) l items.toArray := ⟨_, k0 _ _ (N _ hm).1, rfl, n, rfl⟩
  refine subscriptTail_ops hT.typeIs slot_tuple_getitem.lookup (getItem_tuple_from hT (Heap.IsSliceOf.new ..) h1 (by simpa using ha) ?_ (by rw [sizeLine_eq]; simp; omega)) hs ht
  have N1 := News.push (F.push { cls := .type "slice", data := .fields #[.int a u, .none, .none] }) (news_kept N k0) { cls := .type "tuple", data := .seq (items.drop a).toArray }
  exact h _ _ ((F.push _).push _) (by simpa using N1) fun q hq => by
    show _ < (s.heap.push _).objs.size
    rw [Heap.size_push]
    exact Nat.lt_succ_of_lt (Heap.lt_size (N q hq).1)
end
end Mine

namespace Mine
theorem join_one (g v : Str) : Txt.join g [v] = v := by
  show (⟨_⟩ : Str) = v
  rfl
theorem keep_sub {h₀ h h' : Heap} {L b : Addr} {o : Obj} {sub sub' : List (Addr × Obj)} (N : News h₀ L h sub) (N' : News h₀ L h' sub') (hs : ∀ p ∈ sub, p.1 = b → p ∈ sub') (k0 : b ∉ sub.map (·.1) → h.get? b = some o → h'.get? b = some o) (e : h.get? b = some o) : h'.get? b = some o := by
  by_cases hb : b ∈ sub.map (·.1)
  · obtain ⟨p, hp, rfl⟩ := List.mem_map.mp hb
    have e1 := (N p hp).1
    rw [e1] at e
    cases e
    exact (N' p (hs p hp rfl)).1
  · exact k0 hb e
end Mine
namespace Mine
/-- a list's values are pairs of texts -/
inductive RowsAt (h : Heap) : List Value → List (Str × Str) → Prop
  | nil : RowsAt h [] []
  | cons {T : Addr} {k v : Str} {t u : Tok} {vs : List Value} {rows : List (Str × Str)} : IsTup h T #[.str k t, .str v u] → RowsAt h vs rows → RowsAt h (.ref T :: vs) ((k, v) :: rows)
theorem RowsAt.get {h : Heap} {vs : List Value} {rows : List (Str × Str)} (r : RowsAt h vs rows) {i : Nat} {v : Value} (e : vs[i]? = some v) : ∃ T k x t u, v = .ref T ∧ rows[i]? = some (k, x) ∧ IsTup h T #[.str k t, .str x u] := by
  induction r generalizing i with
  | nil => simp at e
  | cons ht _ ih =>
    cases i with
    | zero =>
      simp at e
      subst e
      exact ⟨_, _, _, _, _, rfl, rfl, ht⟩
    | succ i => exact ih (by simpa using e)
theorem RowsAt.length {h : Heap} {vs : List Value} {rows : List (Str × Str)} (r : RowsAt h vs rows) : vs.length = rows.length := by
  induction r with
  | nil => rfl
  | cons _ _ ih => simp [ih]
theorem RowsAt.snoc {h : Heap} {vs : List Value} {rows : List (Str × Str)} {T : Addr} {k v : Str} {t u : Tok} (r : RowsAt h vs rows) (ht : IsTup h T #[.str k t, .str v u]) : RowsAt h (vs ++ [.ref T]) (rows ++ [(k, v)]) := by
  induction r with
  | nil => exact .cons ht .nil
  | cons ht _ ih => exact .cons ht ih
end Mine
namespace Mine
section
variable {prog : Program} {w : World} {A : Around} {E : Value → Shared → Prop} {s : Shared} {Q : Value → Shared → Prop}
theorem str_item {value slice : PySem.Expr} {x : Str} {t u : Tok} {i : Int} (h0 : 0 ≤ i) (h1 : i < x.length) (hx : x.length ≤ 1000000) (h : Q (.str ⟨#[x.cps.getD i.toNat 0]⟩ s.toks) { s with toks := s.toks + 1 })
    (hs : subscripted slice false (.str x t) (.int i u) = operate [.str x t, .int i u] (getItem (.str x t) (.int i u))) (ht : ∀ r, letTemporaryGo value (.str x t) r = pure ()) :
    wpAny (model prog w) A (subscriptTail value slice (.str x t) (.int i u)) Q E s := by
  refine subscriptTail_ops (typeIs_str _ _ _) F.slot_str_getitem.lookup (SB.getItem (fitsSsize_of (N := 9223372036854775808) (by omega) (by omega) (Int.le_refl _)) (charAt_isSome (by omega) h1) ?_) hs ht
  have hl : i.toNat < x.cps.size := by
    have : (x.length : Int) = x.cps.size := rfl
    omega
  rw [item_meets h0 (n := x.cps.getD i.toNat 0) (by simp [Array.getD, hl])]
  exact h
end
end Mine
namespace Mine
section
variable {prog : Program} {w : World} {A : Around} {E : Value → Shared → Prop} {s : Shared} {h₀ : Heap} {L : Addr} {m : Str → Option Value} {news news' : List (Addr × Obj)}
/-- list += list, both of the ledger -/
theorem iadd_list {l b : Addr} {xs ys : List Value} {n n2 : Nat} {Q : Value → Shared → Prop} (F : Fr h₀ L s.heap m) (N : News h₀ L s.heap news) (U : Upd l (listOf xs.toArray n) (listOf (xs ++ ys).toArray (n + 1)) news news') (hb : (b, listOf ys.toArray n2) ∈ news)
    (hy : 1 ≤ ys.length) (hz : xs.length + ys.length ≤ 1000) (h : ∀ h', Fr h₀ L h' m → News h₀ L h' news' → Q (.ref l) { s with heap := h' }) : wpAny (model prog w) A (inplaceOp .Add (.ref l) (.ref b)) Q E s := by
  obtain ⟨pre, post, rfl, rfl, a, c⟩ := U.split
  have z := N (l, listOf xs.toArray n) (List.mem_append.mpr (.inr (.head _)))
  have zb := (N _ hb).1
  have hsz' : xs.toArray.size + ys.toArray.size ≤ sizeLine := by rw [sizeLine_eq]; simp; omega
  have hfi : fillsInplaceSlot (.type "list") "add" (Operator.Add == .Add) = pure false := by
    unfold fillsInplaceSlot
    show (typeLookup (.type "list") (dunderI "add") >>= fun fi => pure (fi.isSome && !isSeqSlot fi)) = pure false
    rw [PySem.F.slot_list_iadd.lookup]
    have e : isSeqSlot (some (.builtin "list.__iadd__")) = true := by decide +kernel
    show (pure (true && !isSeqSlot (some (.builtin "list.__iadd__"))) : Sem Bool) = pure false
    rw [e]
    rfl
  have hsi : seqSlot? (.type "list") (dunderI "add") = pure (some (.builtin "list.__iadd__")) := PySem.seqSlot_of PySem.F.slot_list_iadd.lookup (by decide +kernel)
  unfold inplaceOp
  refine wpAny_holding ?_
  refine wpAny_bind (wpAny_typeOf ⟨_, z.1, rfl⟩ (wpAny_bind (wpAny_of_eq hfi ?_)))
  show wpAny _ A (if false = true then _ else _) Q E s
  rw [if_neg Bool.false_ne_true]
  refine wpAny_bind (wpAny_binaryOp1_none (nm := "add") ⟨_, z.1, rfl⟩ ⟨_, zb, rfl⟩ noFill_list_add ?_)
  refine wpAny_bind (wpAny_of_eq hsi ?_)
  refine wpAny_bind (wpAny_rule ?_)
  refine call_meets PySem.F.slot_list_iadd ⟨_, z.1, rfl⟩ PySem.F.entry_list_iadd (PySem.F.args_list_iadd_2 _ _) (AutoSeq1.list___iadd___list_list_0 l xs.toArray n b ys.toArray n2 (extend_door hsz') (Nat.le_trans (Nat.le_add_right _ _) hsz')) ⟨z.1, zb, ?_⟩
  have e : xs.toArray ++ ys.toArray = (xs ++ ys).toArray := by simp
  have ho' : (s.heap.update l (Obj.mapSeq fun x => x ++ ys.toArray)).get? l = some (listOf (xs ++ ys).toArray (n + 1)) := by
    rw [Heap.get?_update_self _ z.1 (by rw [mapSeq_app]; rfl), mapSeq_app, e]
    have : ((xs ++ ys).toArray.size == xs.toArray.size) = false := by
      simp
      intro e
      rw [e] at hy
      exact absurd hy (by decide)
    rw [this]
    rfl
  exact h _ (F.change (Heap.SameBut.update ..) z.2.1 z.2.2) (news_set N a c (Heap.SameBut.update ..) ho')
end
end Mine
end
section
open PySem PySem.W PyProof.Rows PyProof.V PySem.Calls PyProof.Rows.LCg
set_option Elab.async false
set_option maxRecDepth 100000
namespace Mine
/-- a turn's end over a ledger that stays -/
def TurnEnd (h₀ : Heap) (L : Addr) (m : Str → Option Value) (s₁ : Shared) (led : List (Addr × Obj)) (J : Prop) (s₂ : Shared) : Prop :=
  ∃ h' tk, s₂ = { s₁ with heap := h', toks := tk } ∧ Fr h₀ L h' m ∧ News h₀ L h' led ∧ J
theorem TurnEnd.intro {h₀ h' : Heap} {L : Addr} {m : Str → Option Value} {s₁ : Shared} {led all : List (Addr × Obj)} {J : Prop} {tk : Nat} (F : Fr h₀ L h' m) (N : News h₀ L h' all) (hs : ∀ p ∈ led, p ∈ all) (j : J) : TurnEnd h₀ L m s₁ led J { s₁ with heap := h', toks := tk } :=
  ⟨h', tk, rfl, F, fun p hp => N p (hs p hp), j⟩
section
variable {prog : Program} {w : World} {A : Around} {h₀ : Heap} {L : Addr} {m : Str → Option Value} {env : Env} {ct elt : PySem.Expr} {x x₂ : Str} {scope : Scope} {cl : List (Str × Addr)} {s : Shared} {S : List (Addr × Obj) → Prop} {P : Nat → Value → Prop} {Fin : List Value → List (Addr × Obj) → Prop} {news : List (Addr × Obj)} {n : Nat}
theorem restT_ind (J : Nat → List Value → Prop) (hS : S news)
    (step : ∀ i ys, i < n → J i ys → ∀ v I oI C oC D m₂ h tk (E' : Value → Shared → Prop), P i v → NsObj oC m₂ → m₂ x = some v → Fr h₀ L h m → News h₀ L h ((I, oI) :: (C, oC) :: (D, lst ys) :: news) → Off3 I C D news → ((@Ne Nat I C) ∧ (@Ne Nat I D) ∧ (@Ne Nat C D)) →
      wpAny (model prog w) A (isTrue ct (compEnvC scope cl C env) (eval ct (compEnvC scope cl C env))) (fun ok s' => if ok = true then
        wpAny (model prog w) A (eval elt (compEnvC scope cl C env)) (fun y s'' => TurnEnd h₀ L m { s with heap := h, toks := tk } ((I, oI) :: (C, oC) :: (D, lst ys) :: news) (J (i + 1) (ys ++ [y])) s'') E' s'
        else TurnEnd h₀ L m { s with heap := h, toks := tk } ((I, oI) :: (C, oC) :: (D, lst ys) :: news) (J (i + 1) ys) s') E' { s with heap := h, toks := tk })
    (fin : ∀ ys, J n ys → Fin ys news) : ∀ k i ys, k + i = n → J i ys → LCt.CompRestT prog w A h₀ L m env ct elt x scope cl s S P Fin k i ys news
  | 0, i, ys, e, j => LCt.CompRestT.zero (fin ys (by have : i = n := by omega
                                                     exact this ▸ j))
  | k + 1, i, ys, e, j => LCt.CompRestT.succ fun v I oI C oC D m₂ h tk E' hv hC hx F N off ne => by
    refine wpAny_mono (step i ys (by omega) j v I oI C oC D m₂ h tk E' hv hC hx F N off ne) (fun ok s' h' => ?_) fun _ _ e => e
    cases ok with
    | true =>
      simp only [if_true] at h' ⊢
      refine wpAny_mono h' (fun y s'' t => ?_) fun _ _ e => e
      obtain ⟨h₂, tk₂, rfl, F₂, N₂, j₂⟩ := t
      exact ⟨h₂, tk₂, news, rfl, F₂, N₂, off, hS, restT_ind J hS step fin k (i + 1) _ (by omega) j₂⟩
    | false =>
      simp only [Bool.false_eq_true, if_false] at h' ⊢
      obtain ⟨h₂, tk₂, rfl, F₂, N₂, j₂⟩ := h'
      exact ⟨h₂, tk₂, news, rfl, F₂, N₂, off, hS, restT_ind J hS step fin k (i + 1) _ (by omega) j₂⟩
theorem restU_ind (J : Nat → List Value → Prop) (hS : S news)
    (step : ∀ i ys, i < n → J i ys → ∀ v I oI C oC D m₂ h tk (E' : Value → Shared → Prop), P i v → NsObj oC m₂ → m₂ x = some v → Fr h₀ L h m → News h₀ L h ((I, oI) :: (C, oC) :: (D, lst ys) :: news) → Off3 I C D news → ((@Ne Nat I C) ∧ (@Ne Nat I D) ∧ (@Ne Nat C D)) →
      wpAny (model prog w) A (eval elt (compEnvC scope cl C env)) (fun y s'' => TurnEnd h₀ L m { s with heap := h, toks := tk } ((I, oI) :: (C, oC) :: (D, lst ys) :: news) (J (i + 1) (ys ++ [y])) s'') E' { s with heap := h, toks := tk })
    (fin : ∀ ys, J n ys → Fin ys news) : ∀ k i ys, k + i = n → J i ys → LCg.CompRest prog w A h₀ L m env elt x scope cl s S P Fin k i ys news
  | 0, i, ys, e, j => LCg.CompRest.zero (fin ys (by have : i = n := by omega
                                                    exact this ▸ j))
  | k + 1, i, ys, e, j => LCg.CompRest.succ fun v I oI C oC D m₂ h tk E' hv hC hx F N off ne => by
    refine wpAny_mono (step i ys (by omega) j v I oI C oC D m₂ h tk E' hv hC hx F N off ne) (fun y s'' t => ?_) fun _ _ e => e
    obtain ⟨h₂, tk₂, rfl, F₂, N₂, j₂⟩ := t
    exact ⟨h₂, tk₂, news, rfl, F₂, N₂, off, hS, restU_ind J hS step fin k (i + 1) _ (by omega) j₂⟩
end
end Mine
namespace Mine
theorem strs_snoc {ys : List Value} {zs : List Str} (h : StrsAre ys zs) (z : Str) (t : Tok) : StrsAre (ys ++ [.str z t]) (zs ++ [z]) := by
  induction h with
  | nil => exact .cons _ _ .nil
  | cons y t _ ih => exact .cons y t ih
end Mine
namespace Mine
theorem filt_yes {α : Type} {p : α → Bool} {l : List α} {i : Nat} {r : α} (e : l[i]? = some r) (h : p r = true) : (l.take (i + 1)).filter p = (l.take i).filter p ++ [r] := by
  rw [List.take_add_one, e, List.filter_append]
  simp [h]
theorem filt_no {α : Type} {p : α → Bool} {l : List α} {i : Nat} {r : α} (e : l[i]? = some r) (h : p r = false) : (l.take (i + 1)).filter p = (l.take i).filter p := by
  rw [List.take_add_one, e, List.filter_append]
  simp [h]
end Mine
namespace Mine
/-- a goal that no line of the walk knows: the walk stops here -/
def Hold (P : Prop) : Prop := P
theorem Hold.out {P : Prop} (h : Hold P) : P := h
theorem Hold.mk {P : Prop} (h : P) : Hold P := h
end Mine
end
section
open PySem PySem.W PyProof.Rows PyProof.V PySem.Calls PyProof.Rows.LCg
set_option Elab.async false
set_option maxRecDepth 100000
set_option maxHeartbeats 2000000
namespace Mine
section
variable {prog : Program} {w : World} {A : Around} {E : Value → Shared → Prop} {s : Shared} {h₀ : Heap} {L : Addr} {m : Str → Option Value} {env : Env}
theorem loop_pairT {elt iter : PySem.Expr} {elts : List PySem.Expr} {x1} {tp : Pos} {ifs : List PySem.Expr} {scope : Scope} {pos : Pos} {it acc : Value} {env : Env} {R : Result → Shared → Prop} (I : Nat → Shared → Prop)
    (turn : ∀ n s, I n s → wpAny (model prog w) A (pyNext it) (fun r s₁ => match r with
      | none => R (.ok .next) s₁
      | some v => wpAny (model prog w) A (letOwnedTupleGo (.Tuple elts x1 tp) it v) (fun _ s₁' => wpAny (model prog w) A (assign (.Tuple elts x1 tp) env v) (fun _ s₂ =>
          wpAny (model prog w) A (forIn ifs true fun c r => if r = true then do let ok ← isTrue c env (eval c env); pure (ForInStep.yield ok) else pure (ForInStep.yield r)) (fun ok s₃ =>
            if ok = true then wpAny (model prog w) A (eval elt env) (fun x s₄ =>
              wpAny (model prog w) A (call (.builtin "list.append") [acc, x]) (fun _ s₅ => ∃ m, m < n ∧ I m s₅) (notedBy (model prog w) A env fun e s' => R (.error e) s') s₄) (notedBy (model prog w) A env fun e s' => R (.error e) s') s₃
            else ∃ m, m < n ∧ I m s₃) (notedBy (model prog w) A env fun e s' => R (.error e) s') s₂)
          (notedBy (model prog w) A env fun e s' => R (.error e) s') s₁') (notedBy (model prog w) A env fun e s' => R (.error e) s') s₁) (notedBy (model prog w) A env fun e s' => R (.error e) s') s)
    (n : Nat) (h : I n s) : codeAny (model prog w) A (.compLoop (.ListComp elt [⟨.Tuple elts x1 tp, iter, ifs, 0⟩] scope pos) 0 it acc env) R s := by
  refine codeAny_loop rfl I (fun n s hI => ?_) n h
  show wpAny _ A ((compTurn (.ListComp elt [⟨.Tuple elts x1 tp, iter, ifs, 0⟩] scope pos) 0 it acc env).onRaise (fun x => do noteFrame x env; theTreesLotGoes x)) _ _ s
  refine wpAny_noted ?_
  rw [compTurn_list]
  refine wpAny_bind (wpAny_standAt (wpAny_bind (wpAny_mono (turn n s hI) (fun r s₁ h₁ => ?_) fun _ _ h' => h')))
  cases r with
  | none => exact wpAny_pure h₁
  | some v =>
    refine wpAny_bind (wpAny_mono h₁ (fun _ s₁' h₁' => ?_) fun _ _ h' => h')
    refine wpAny_bind (wpAny_mono h₁' (fun _ s₂ h₂ => wpAny_bind (wpAny_mono h₂ (fun ok s₃ h₃ => ?_) fun _ _ h' => h')) fun _ _ h' => h')
    cases ok with
    | false => exact wpAny_pure ⟨rfl, h₃⟩
    | true => exact wpAny_bind (wpAny_bind (wpAny_mono h₃ (fun x s₄ h₄ => wpAny_bind (wpAny_mono h₄ (fun _ s₅ h₅ => wpAny_pure (wpAny_pure ⟨rfl, h₅⟩)) fun _ _ h' => h')) fun _ _ h' => h'))
end
end Mine
namespace Mine
section
variable {prog : Program} {w : World} {A : Around} {E : Value → Shared → Prop} {s : Shared} {h₀ : Heap} {L : Addr} {m : Str → Option Value} {env : Env}
theorem frB {h h' : Heap} {wr : List Addr} (F : Fr h₀ L h m) (hk : ∀ b o, b ∉ wr → h.get? b = some o → h'.get? b = some o) (hL : L ∉ wr) (hI : ∀ b ∈ wr, h₀.get? b = none) : Fr h₀ L h' m :=
  ⟨F.ns.at' fun o e => hk L o hL e, fun b o e => hk b o (fun hm => by rw [hI b hm] at e; cases e) (F.keep b o e), F.above⟩
theorem newsB {h h' : Heap} {wr : List Addr} {news : List (Addr × Obj)} (N : News h₀ L h news) (hk : ∀ b o, b ∉ wr → h.get? b = some o → h'.get? b = some o) (off : ∀ p ∈ news, p.1 ∉ wr) : News h₀ L h' news :=
  fun p hp => ⟨hk _ _ (off p hp) (N p hp).1, (N p hp).2⟩
end
end Mine
end
section
open PySem PySem.W PyProof.Rows PyProof.V PySem.Calls PyProof.Rows.LCg
set_option Elab.async false
set_option maxRecDepth 100000
set_option maxHeartbeats 2000000
namespace Mine
section
variable {prog : Program} {w : World} {A : Around} {E : Value → Shared → Prop} {s : Shared} {h₀ : Heap} {L : Addr} {m : Str → Option Value} {env : Env}
set_option linter.unusedVariables false in
theorem block_W {elt iter : PySem.Expr} {ifs : List PySem.Expr} {x x₂ : Str} {px px₂ tp : Pos} {tk} {scope : Scope} {cl : List (Str × Addr)} {pos : Pos} {s₂ : Shared} {z TI TO i1 i2 : Addr} {news : List (Addr × Obj)} {J : Nat → List Value → Prop} {n : Nat}
    {RR : Value → Addr → Result → Shared → Prop} {ls : List Addr} {X Y : Nat → Value → Prop} {St : Nat → Heap → Prop} {Mid : Nat → Addr → Heap → Prop} (hh : A.handled = none)
    (W : WalksT prog w A z ([z, TI, TO, i1, i2] ++ ls) [z, TO, i1, i2] n (fun i vals => ∃ x y, X i x ∧ Y i y ∧ vals = #[x, y]) St Mid) (st0 : St 0 s₂.heap)
    (hObj : ∀ i h, St i h → ∃ oz oTI oTO o1 o2, h.get? z = some oz ∧ h.get? TI = some oTI ∧ h.get? TO = some oTO ∧ h.get? i1 = some o1 ∧ h.get? i2 = some o2) (hTIwr : TI ∉ [z, TO, i1, i2]) (hls : ∀ b ∈ ls, ∃ o, (b, o) ∈ news)
    (F : Fr h₀ L s₂.heap m) (N : News h₀ L s₂.heap news) (off : ∀ b, b = z ∨ b = TI ∨ b = TO ∨ b = i1 ∨ b = i2 → h₀.get? b = none ∧ b ≠ L ∧ ∀ p ∈ news, p.1 ≠ b)
    (hsz : n ≤ sizeLine) (hJ : J 0 [])
    (hcell : ∀ y ∈ scope.names, y.2 ≠ .cell) (hkind : scope.kind = .function) (hx : scope.names.lookup x = some .local) (hx₂ : scope.names.lookup x₂ = some .local) (hxx : x ≠ x₂)
    (turn : ∀ i ys' v₁ v₂, X i v₁ → Y i v₂ → J i ys' → ys'.length ≤ i → ∀ oz oTI oTO o1 o2 C oC D m₂ h tk (E' : Value → Shared → Prop), NsObj oC m₂ → m₂ x = some v₁ → m₂ x₂ = some v₂ → Fr h₀ L h m →
      News h₀ L h ((z, oz) :: (TI, oTI) :: (TO, oTO) :: (i1, o1) :: (i2, o2) :: (C, oC) :: (D, lst ys') :: news) →
      wpAny (model prog w) A (forIn ifs true fun c r => if r = true then do let ok ← isTrue c (compEnvC scope cl C env) (eval c (compEnvC scope cl C env)); pure (ForInStep.yield ok) else pure (ForInStep.yield r)) (fun ok s' => if ok = true then
        wpAny (model prog w) A (eval elt (compEnvC scope cl C env)) (fun y s'' => TurnEnd h₀ L m { s₂ with heap := h, toks := tk } ((z, oz) :: (TI, oTI) :: (TO, oTO) :: (i1, o1) :: (i2, o2) :: (C, oC) :: (D, lst ys') :: news) (J (i + 1) (ys' ++ [y])) s'') E' s'
        else TurnEnd h₀ L m { s₂ with heap := h, toks := tk } ((z, oz) :: (TI, oTI) :: (TO, oTO) :: (i1, o1) :: (i2, o2) :: (C, oC) :: (D, lst ys') :: news) (J (i + 1) ys') s') E' { s₂ with heap := h, toks := tk })
    (hRR : ∀ D C h tk m' ys', J n ys' → Fr h₀ L h m → News h₀ L h ((D, lst ys') :: news) → (∀ p ∈ news, p.1 ≠ D) → h.Ns C m' → h₀.get? C = none → C ≠ L → C ≠ D → (∀ p ∈ news, p.1 ≠ C) → RR (.ref D) C (.ok .next) { s₂ with heap := h, toks := tk }) :
    wpAny (model prog w) A (newList []) (fun acc s₃ => wpAny (model prog w) A (newFunctionEnv scope env.globals cl [] env.qual none .none (some env)) (fun cenv s₄ =>
      codeAny (model prog w) A (.compStart (.ListComp elt [⟨.Tuple [.Name x px, .Name x₂ px₂] tk tp, iter, ifs, 0⟩] scope pos) 0 (.ref z) acc { cenv with scope := relabel scope env }) (RR acc cenv.locals) s₄) E s₃) E s₂ := by
  have wrOff : ∀ b ∈ [z, TO, i1, i2], h₀.get? b = none ∧ b ≠ L ∧ ∀ p ∈ news, p.1 ≠ b := by
    intro b hb
    simp only [List.mem_cons, List.not_mem_nil, or_false] at hb
    rcases hb with rfl | rfl | rfl | rfl
    · exact off _ (.inl rfl)
    · exact off _ (.inr (.inr (.inl rfl)))
    · exact off _ (.inr (.inr (.inr (.inl rfl))))
    · exact off _ (.inr (.inr (.inr (.inr rfl))))
  have hLwr : L ∉ [z, TO, i1, i2] := fun hb => (wrOff L hb).2.1 rfl
  refine wpAny_newObj_type (wpAny_newFunctionEnv hcell (by intro y hy; simp at hy) (fun h₁ hns₁ hsb₁ => ?_) hkind)
  dsimp only at hns₁ hsb₁ ⊢
  generalize hH2 : s₂.heap.push { cls := .type "list", dict := none, data := .seq ([] : List Value).toArray } = H2 at hns₁ hsb₁ ⊢
  have hC : H2.objs.size = s₂.heap.objs.size + 1 := by rw [← hH2, Heap.size_push]
  have hDC : s₂.heap.objs.size ≠ H2.objs.size := by rw [hC]; exact Nat.ne_of_lt (Nat.lt_succ_self _)
  have below : ∀ b, b < s₂.heap.objs.size → b ≠ H2.objs.size ∧ b ≠ s₂.heap.objs.size := fun b hb => ⟨by rw [hC]; exact Nat.ne_of_lt (Nat.lt_succ_of_lt hb), Nat.ne_of_lt hb⟩
  have old : ∀ b o, s₂.heap.get? b = some o → h₁.get? b = some o := fun b o e => hsb₁.extBut b o (below b (Heap.lt_size e)).1 (Heap.get?_push_of_some _ (hH2 ▸ Heap.get?_push_of_some _ e))
  have hacc : h₁.get? s₂.heap.objs.size = some (lst []) := hsb₁.extBut _ _ hDC (Heap.get?_push_of_some _ (hH2 ▸ Heap.get?_push_size _ rfl))
  have hst₁ : St 0 h₁ := W.frame _ _ _ st0 fun b _ o e => old b o e
  have fresh : ∀ a, s₂.heap.objs.size ≤ a → s₂.heap.get? a = none := fun a ha => by
    cases e : s₂.heap.get? a with
    | none => rfl
    | some o' => exact absurd (Heap.lt_size e) (Nat.not_lt.mpr ha)
  have fresh₀ : ∀ a, s₂.heap.objs.size ≤ a → h₀.get? a = none := fun a ha => by
    cases e : h₀.get? a with
    | none => rfl
    | some o' => have := F.keep a o' e; rw [fresh a ha] at this; cases this
  have hD₀ : h₀.get? s₂.heap.objs.size = none := fresh₀ _ (Nat.le_refl _)
  have hC₀ : h₀.get? H2.objs.size = none := fresh₀ _ (by rw [hC]; exact Nat.le_succ _)
  have hLlt : L < s₂.heap.objs.size := F.ns.lt
  have hDL : s₂.heap.objs.size ≠ L := Ne.symm (below L hLlt).2
  have hCL : H2.objs.size ≠ L := Ne.symm (below L hLlt).1
  have fpLt : ∀ b ∈ [z, TI, TO, i1, i2] ++ ls, b < s₂.heap.objs.size := by
    intro b hb
    obtain ⟨oz, oTI, oTO, o1, o2, e1, e2, e3, e4, e5⟩ := hObj _ _ st0
    rcases List.mem_append.mp hb with hb | hb
    · simp only [List.mem_cons, List.not_mem_nil, or_false] at hb
      rcases hb with rfl | rfl | rfl | rfl | rfl
      · exact Heap.lt_size e1
      · exact Heap.lt_size e2
      · exact Heap.lt_size e3
      · exact Heap.lt_size e4
      · exact Heap.lt_size e5
    · obtain ⟨o, ho⟩ := hls b hb
      exact Heap.lt_size (N _ ho).1
  have hCwr : H2.objs.size ∉ [z, TO, i1, i2] := fun hb => (below _ (fpLt _ (W.sub _ hb))).1 rfl
  have hDwr : s₂.heap.objs.size ∉ [z, TO, i1, i2] := fun hb => (below _ (fpLt _ (W.sub _ hb))).2 rfl
  have hnC : ∀ p ∈ news, p.1 ≠ H2.objs.size := fun p hp => (below _ (Heap.lt_size (N p hp).1)).1
  have hnD : ∀ p ∈ news, p.1 ≠ s₂.heap.objs.size := fun p hp => (below _ (Heap.lt_size (N p hp).1)).2
  have hnW : ∀ p ∈ news, p.1 ∉ [z, TO, i1, i2] := fun p hp hb => (wrOff _ hb).2.2 p hp rfl
  have loop : ∀ s₃ : Shared, s₃ = { s₂ with heap := h₁, toks := s₂.toks + ([] : List (Str × Value)).length } →
      codeAny (model prog w) A (.compLoop (.ListComp elt [⟨.Tuple [.Name x px, .Name x₂ px₂] tk tp, iter, ifs, 0⟩] scope pos) 0 (.ref z) (.ref s₂.heap.objs.size) (compEnvC scope cl H2.objs.size env))
        (RR (.ref s₂.heap.objs.size) H2.objs.size) s₃ := by
    rintro s₃ rfl
    refine loop_pairT
      (fun k s' => ∃ h' tk i ys' m', s' = { s₂ with heap := h', toks := tk } ∧ i ≤ n ∧ k = n + 1 - i ∧ ys'.length ≤ i ∧ St i h' ∧ Fr h₀ L h' m ∧ h'.Ns H2.objs.size m' ∧ News h₀ L h' ((s₂.heap.objs.size, lst ys') :: news) ∧ J i ys') ?_ (n + 1)
      ⟨h₁, _, 0, [], _, rfl, Nat.zero_le _, rfl, Nat.le_refl _, hst₁, F.keeps old, hns₁, fun p hp => ?_, hJ⟩
    · rintro k s' ⟨h', tk, i, ys', m', rfl, hi, rfl, hyl, hst', F', hn', N', j'⟩
      by_cases hlt : i < n
      · refine W.item i _ _ _ hlt hst' fun T vals h₂ tk₂ hPv hTge hT hMid hk₂ => ?_
        obtain ⟨v₁, v₂, hv1, hv2, rfl⟩ := hPv
        have N₂ : News h₀ L h₂ ((s₂.heap.objs.size, lst ys') :: news) := newsB N' hk₂ fun p hp => by
          rcases List.mem_cons.mp hp with rfl | hp
          · exact hDwr
          · exact hnW p hp
        have F₂ : Fr h₀ L h₂ m := frB F' hk₂ hLwr fun b hb => (wrOff b hb).1
        have hn₂ : h₂.Ns H2.objs.size m' := hn'.at' fun o e => hk₂ _ o hCwr e
        refine W.go _ _ _ i T _ _ _ hMid fun h₃ hst₃ hk₃ => ?_
        have hT₃ : IsTup h₃ T #[v₁, v₂] := by
          obtain ⟨o, ho, hc, q, hd⟩ := hT
          exact ⟨o, hk₃ T o (W.apart _ _ _ hMid) ho, hc, q, hd⟩
        have N₃ : News h₀ L h₃ ((s₂.heap.objs.size, lst ys') :: news) := newsB N₂ hk₃ fun p hp => by
          rcases List.mem_cons.mp hp with rfl | hp
          · exact hDwr
          · exact hnW p hp
        have F₃ : Fr h₀ L h₃ m := frB F₂ hk₃ hLwr fun b hb => (wrOff b hb).1
        have hn₃ : h₃.Ns H2.objs.size m' := hn₂.at' fun o e => hk₃ _ o hCwr e
        refine assign_Tuple_tuple hh hT₃ rfl rfl fun h₅ he => ?_
        have he' : ∀ b o, h₃.get? b = some o → h₅.get? b = some o := fun b o e => he b o (Nat.ne_of_lt (Heap.lt_size e)) e
        refine assignInOrder_cons (wpAny_assign_Name (wpAny_storeName_local (lookup_relabel_local hx) (hn₃.at' fun o e => he' _ o e) (fun h₆ hn₆ hs₆ => ?_) (by simp [compEnvC, relabel, hkind])))
        refine assignInOrder_cons (wpAny_assign_Name (wpAny_storeName_local (lookup_relabel_local hx₂) hn₆ (fun h₇ hn₇ hs₇ => ?_) (by simp [compEnvC, relabel, hkind])))
        refine assignInOrder_nil ?_
        have old7 : ∀ b o, b ≠ H2.objs.size → h₃.get? b = some o → h₇.get? b = some o := fun b o hb e => hs₇.extBut b o hb (hs₆.extBut b o hb (he' b o e))
        have hst₇ : St (i + 1) h₇ := W.frame _ _ _ hst₃ fun b hb o e => old7 b o (below b (fpLt b hb)).1 e
        obtain ⟨oz, oTI, oTO, o1, o2, e1, e2, e3, e4, e5⟩ := hObj _ _ hst₇
        obtain ⟨oC, heC, hoC⟩ := ns_obj hn₇
        have F₇ : Fr h₀ L h₇ m := ((F₃.keeps he').change hs₆ hCL hC₀).change hs₇ hCL hC₀
        have N₇ : News h₀ L h₇ ((z, oz) :: (TI, oTI) :: (TO, oTO) :: (i1, o1) :: (i2, o2) :: (H2.objs.size, oC) :: (s₂.heap.objs.size, lst ys') :: news) := fun p hp => by
          rcases List.mem_cons.mp hp with rfl | hp
          · exact ⟨e1, (off _ (.inl rfl)).2.1, (off _ (.inl rfl)).1⟩
          rcases List.mem_cons.mp hp with rfl | hp
          · exact ⟨e2, (off _ (.inr (.inl rfl))).2.1, (off _ (.inr (.inl rfl))).1⟩
          rcases List.mem_cons.mp hp with rfl | hp
          · exact ⟨e3, (off _ (.inr (.inr (.inl rfl)))).2.1, (off _ (.inr (.inr (.inl rfl)))).1⟩
          rcases List.mem_cons.mp hp with rfl | hp
          · exact ⟨e4, (off _ (.inr (.inr (.inr (.inl rfl))))).2.1, (off _ (.inr (.inr (.inr (.inl rfl))))).1⟩
          rcases List.mem_cons.mp hp with rfl | hp
          · exact ⟨e5, (off _ (.inr (.inr (.inr (.inr rfl))))).2.1, (off _ (.inr (.inr (.inr (.inr rfl))))).1⟩
          rcases List.mem_cons.mp hp with rfl | hp
          · exact ⟨heC, hCL, hC₀⟩
          · have zz := N₃ p hp
            refine ⟨old7 _ _ ?_ zz.1, zz.2⟩
            rcases List.mem_cons.mp hp with rfl | hp
            · exact hDC
            · exact hnC p hp
        have back : ∀ h₈, News h₀ L h₈ ((z, oz) :: (TI, oTI) :: (TO, oTO) :: (i1, o1) :: (i2, o2) :: (H2.objs.size, oC) :: (s₂.heap.objs.size, lst ys') :: news) → St (i + 1) h₈ := by
          intro h₈ N₈
          refine W.frame _ _ _ hst₇ fun b hb o e => ?_
          have g : ∀ q ∈ ((z, oz) :: (TI, oTI) :: (TO, oTO) :: (i1, o1) :: (i2, o2) :: (H2.objs.size, oC) :: (s₂.heap.objs.size, lst ys') :: news), q.1 = b → h₈.get? b = some o := by
            intro q hq hqb
            have a1 := (N₇ q hq).1
            rw [hqb] at a1
            rw [a1] at e
            cases e
            exact hqb ▸ (N₈ q hq).1
          rcases List.mem_append.mp hb with hb | hb
          · simp only [List.mem_cons, List.not_mem_nil, or_false] at hb
            rcases hb with rfl | rfl | rfl | rfl | rfl
            · exact g _ (.head _) rfl
            · exact g _ (.tail _ (.head _)) rfl
            · exact g _ (.tail _ (.tail _ (.head _))) rfl
            · exact g _ (.tail _ (.tail _ (.tail _ (.head _)))) rfl
            · exact g _ (.tail _ (.tail _ (.tail _ (.tail _ (.head _))))) rfl
          · obtain ⟨o', ho'⟩ := hls b hb
            exact g _ (.tail _ (.tail _ (.tail _ (.tail _ (.tail _ (.tail _ (.tail _ ho'))))))) rfl
        refine wpAny_mono (turn i ys' v₁ v₂ hv1 hv2 j' hyl oz oTI oTO o1 o2 H2.objs.size oC s₂.heap.objs.size _ h₇ _ _ hoC (by simp [hxx]) (by simp) F₇ N₇) (fun ok s₄ h₄ => ?_) fun _ _ e => e
        cases ok with
        | true =>
          simp only [if_true] at h₄ ⊢
          refine wpAny_mono h₄ (fun y s₅ h₅ => ?_) fun _ _ e => e
          obtain ⟨h₈, tk₈, rfl, F₈, N₈, j₈⟩ := h₅
          have zC := (N₈ (H2.objs.size, oC) (.tail _ (.tail _ (.tail _ (.tail _ (.tail _ (.head _))))))).1
          have zD := (N₈ (s₂.heap.objs.size, lst ys') (.tail _ (.tail _ (.tail _ (.tail _ (.tail _ (.tail _ (.head _)))))))).1
          refine append_at (hsz := by show ys'.toArray.size ≤ sizeLine; rw [List.size_toArray]; exact Nat.le_trans (Nat.le_trans hyl hi) hsz) zD fun h₉ hs₉ hD₉ => ?_
          refine ⟨n + 1 - (i + 1), by omega, h₉, tk₈, i + 1, ys' ++ [y], _, rfl, hlt, rfl, by rw [List.length_append, List.length_singleton]; exact Nat.succ_le_succ hyl, W.frame _ _ _ (back _ N₈) fun b hb o e => hs₉.extBut b o (below b (fpLt b hb)).2 e, F₈.change hs₉ hDL hD₀,
            (hoC.ns zC).sameBut hs₉ (Ne.symm hDC), fun p hp => ?_, j₈⟩
          rcases List.mem_cons.mp hp with rfl | hp
          · exact ⟨hD₉.trans (congrArg some (lst_snoc ys' y)), hDL, hD₀⟩
          · have q := N₈ p (.tail _ (.tail _ (.tail _ (.tail _ (.tail _ (.tail _ (.tail _ hp)))))))
            exact ⟨hs₉.extBut _ _ (hnD p hp) q.1, q.2⟩
        | false =>
          simp only [Bool.false_eq_true, if_false] at h₄ ⊢
          obtain ⟨h₈, tk₈, rfl, F₈, N₈, j₈⟩ := h₄
          have zC := (N₈ (H2.objs.size, oC) (.tail _ (.tail _ (.tail _ (.tail _ (.tail _ (.head _))))))).1
          refine ⟨n + 1 - (i + 1), by omega, h₈, tk₈, i + 1, ys', _, rfl, hlt, rfl, Nat.le_succ_of_le hyl, back _ N₈, F₈, hoC.ns zC, fun p hp => ?_, j₈⟩
          rcases List.mem_cons.mp hp with rfl | hp
          · exact N₈ _ (.tail _ (.tail _ (.tail _ (.tail _ (.tail _ (.tail _ (.head _)))))))
          · exact N₈ p (.tail _ (.tail _ (.tail _ (.tail _ (.tail _ (.tail _ (.tail _ hp)))))))
      · obtain rfl : i = n := Nat.le_antisymm hi (Nat.not_lt.mp hlt)
        refine W.done _ _ _ hst' fun h₂ tk₂ hk₂ => ?_
        exact hRR _ _ h₂ tk₂ _ ys' j' (frB F' hk₂ hLwr fun b hb => (wrOff b hb).1) (newsB N' hk₂ fun p hp => by
          rcases List.mem_cons.mp hp with rfl | hp
          · exact hDwr
          · exact hnW p hp) hnD (hn'.at' fun o e => hk₂ _ o hCwr e) hC₀ hCL (Ne.symm hDC) hnC
    · rcases List.mem_cons.mp hp with rfl | hp
      · exact ⟨hacc, hDL, hD₀⟩
      · exact ⟨old _ _ (N p hp).1, (N p hp).2⟩
  exact codeAny_compStart_list (loop _ rfl) (W.self 0 _ _ _ hst₁ (loop _ rfl))
end
end Mine
end
section
open PySem PySem.W PyProof.Rows PyProof.V PySem.Calls PyProof.Rows.LCg
set_option Elab.async false
set_option maxRecDepth 100000
set_option maxHeartbeats 2000000
namespace Mine
section
variable {prog : Program} {w : World} {A : Around} {E : Value → Shared → Prop} {s : Shared} {h₀ : Heap} {L : Addr} {m : Str → Option Value} {env : Env}
/-- the same where the list is bound to a name at once -/
def SrcZA (prog : Program) (w : World) (A : Around) (h₀ : Heap) (L : Addr) (m : Str → Option Value) (env : Env) (elt : PySem.Expr) (ifs : List PySem.Expr) (x x₂ : Str) (scope : Scope) (cl : List (Str × Addr)) (y : Str) (Q : Flow → Shared → Prop) (xv : Value) (s₁ : Shared) : Prop :=
  ∀ G : Prop, (∀ (z TI TO i1 i2 l1 l2 : Addr) (xs ys : List Value) (news : List (Addr × Obj)) (J : Nat → List Value → Prop) (ol1 ol2 : Obj) (n : Nat),
    (xv = .ref z) →
    (A.handled = none) →
    (ZipApart z TI TO i1 i2 l1 l2) →
    (IsZip s₁.heap z TI TO .none ∧ IsPair s₁.heap TI (.ref i1) (.ref i2) ∧ (∃ a b, IsPair s₁.heap TO a b) ∧ s₁.heap.IsListIter i1 l1 0 ∧ s₁.heap.IsListIter i2 l2 0 ∧ s₁.heap.IsList l1 xs.toArray ∧ s₁.heap.IsList l2 ys.toArray) →
    (Fr h₀ L s₁.heap m) →
    (News h₀ L s₁.heap news) →
    (∀ b, b = z ∨ b = TI ∨ b = TO ∨ b = i1 ∨ b = i2 → h₀.get? b = none ∧ b ≠ L ∧ ∀ p ∈ news, p.1 ≠ b) →
    ((l1, ol1) ∈ news) →
    ((l2, ol2) ∈ news) →
    (n ≤ sizeLine) →
    (min xs.length ys.length = n) →
    (J 0 []) →
    (∀ i ys' v₁ v₂, xs[i]? = some v₁ → ys[i]? = some v₂ → J i ys' → ys'.length ≤ i → ∀ oz oTI oTO o1 o2 C oC D m₂ h tk (E' : Value → Shared → Prop), NsObj oC m₂ → m₂ x = some v₁ → m₂ x₂ = some v₂ → Fr h₀ L h m →
      News h₀ L h ((z, oz) :: (TI, oTI) :: (TO, oTO) :: (i1, o1) :: (i2, o2) :: (C, oC) :: (D, lst ys') :: news) →
      wpAny (model prog w) A (forIn ifs true fun c r => if r = true then do let ok ← isTrue c (compEnvC scope cl C env) (eval c (compEnvC scope cl C env)); pure (ForInStep.yield ok) else pure (ForInStep.yield r)) (fun ok s' => if ok = true then
        wpAny (model prog w) A (eval elt (compEnvC scope cl C env)) (fun y s'' => TurnEnd h₀ L m { s₁ with heap := h, toks := tk } ((z, oz) :: (TI, oTI) :: (TO, oTO) :: (i1, o1) :: (i2, o2) :: (C, oC) :: (D, lst ys') :: news) (J (i + 1) (ys' ++ [y])) s'') E' s'
        else TurnEnd h₀ L m { s₁ with heap := h, toks := tk } ((z, oz) :: (TI, oTI) :: (TO, oTO) :: (i1, o1) :: (i2, o2) :: (C, oC) :: (D, lst ys') :: news) (J (i + 1) ys') s') E' { s₁ with heap := h, toks := tk }) →
    (∀ D ys' h tk, J n ys' → Fr h₀ L h (fun z => if z = y then some (.ref D) else m z) → News h₀ L h ((D, lst ys') :: news) → (∀ p ∈ news, p.1 ≠ D) → Q .next { s₁ with heap := h, toks := tk }) → G) → G
theorem Assign_ListComp_Z {elt iter : PySem.Expr} {ifs : List PySem.Expr} {x x₂ y : Str} {px px₂ py tp : Pos} {tk} {scope : Scope} {cl : List (Str × Addr)} {pos spos : Pos} {Q : Flow → Shared → Prop} (F₀ : Fr h₀ L s.heap m) (hLe : env.locals = L)
    (hsw : swapsWith (.ListComp elt [⟨.Tuple [.Name x px, .Name x₂ px₂] tk tp, iter, ifs, 0⟩] scope pos) (some (.Name y py)) spos.line env = pure true)
    (hclos : closureFor scope env = pure cl) (hcell : ∀ y ∈ scope.names, y.2 ≠ .cell) (hkind : scope.kind = .function)
    (hnames : ∀ y ∈ scope.names, y.2 = .local → scope.names.lookup y.1 = some .local) (hx : scope.names.lookup x = some .local) (hx₂ : scope.names.lookup x₂ = some .local) (hxx : x ≠ x₂)
    (hy : env.kindOf y = some .local) (hp : (env.scope.kind == .class || (env.scope.kind == .module && env.locals != env.globals)) = false)
    (h : wpAny (model prog w) A (eval iter env) (SrcZA prog w A h₀ L m env elt ifs x x₂ scope cl y Q) E s)
    (hs : ∀ x, foldedSetIterable iter env x = pure x := by intro _; rfl) :
    wpAny (model prog w) A (exec (.Assign [.Name y py] (.ListComp elt [⟨.Tuple [.Name x px, .Name x₂ px₂] tk tp, iter, ifs, 0⟩] scope pos) spos) env) Q E s := by
  subst hLe
  rw [exec_Assign_Name_used _ _ _ _ hsw]
  refine wpAny_bind (wpAny_standAt (wpAny_bind ?_))
  show wpAny _ A (do let _ ← comprehension (.ListComp elt [⟨.Tuple [.Name x px, .Name x₂ px₂] tk tp, iter, ifs, 0⟩] scope pos) scope env _ (newList []) false (eval iter env) (some (assign (.Name y py) env))) _ _ s
  refine wpAny_bind (wpAny_mono (wpAny_comprehension_free (use := some (assign (.Name y py) env)) (Q := fun _ s' => Q .next s') rfl hs hclos hkind hnames
    (wpAny_mono h (fun xv s₁ h₁ => ?_) fun _ _ e => e)) (fun _ s' hq => wpAny_pure (wpAny_pure hq)) fun _ _ e => e)
  refine h₁ _ fun z TI TO i1 i2 l1 l2 xs ys news J ol1 ol2 n hxv hh D st F N off m1 m2 hsz hlen hJ turn fin => ?_
  subst hxv
  refine wpAny_pyIter_zip st.1 ?_
  have W := WalksT.zip2 (prog := prog) (w := w) hh z TI TO i1 i2 l1 l2 D xs.toArray ys.toArray
  have hn : min xs.toArray.size ys.toArray.size = n := by simp [hlen]
  rw [hn] at W
  refine block_W (ls := [l1, l2]) (X := fun i v => xs.toArray[i]? = some v) (Y := fun i v => ys.toArray[i]? = some v) hh W st ?_ ?_ ?_ F N off hsz hJ hcell hkind hx hx₂ hxx
    (fun i ys' v₁ v₂ e1 e2 => turn i ys' v₁ v₂ (by simpa using e1) (by simpa using e2)) ?_
  · rintro i h ⟨hz, hTI, ⟨a, b, hTO⟩, ⟨o1, e1, _⟩, ⟨o2, e2, _⟩, _⟩
    exact ⟨_, _, _, o1, o2, hz, hTI, hTO, e1, e2⟩
  · simp only [List.mem_cons, List.not_mem_nil, or_false, not_or]
    exact ⟨D.TIz, D.TITO, D.TIi1, D.TIi2⟩
  · intro b hb
    rcases List.mem_cons.mp hb with rfl | hb
    · exact ⟨_, m1⟩
    · exact ⟨_, List.mem_singleton.mp hb ▸ m2⟩
  intro D C h tk m' ys' j F' N' o1 hn hC₀ hCL hCD offC
  show wpAny _ A (assign (.Name y py) env (.ref D)) _ _ _
  refine wpAny_assign_Name (wpAny_storeName_local hy F'.ns (fun h₂ hn₂ hs₂ => ?_) hp)
  have hL₀ : h₀.get? env.locals = none := Heap.get?_none_of_le F'.above
  have F₂ : Fr h₀ env.locals h₂ (fun z => if z = y then some (.ref D) else m z) := ⟨hn₂, fun b o e => hs₂.extBut b o (fun q => by rw [q, hL₀] at e; cases e) (F'.keep b o e), F'.above⟩
  refine ⟨m', hn.sameBut hs₂ hCL, fun h'' hs'' => fin D ys' h'' _ j (F₂.change hs'' hCL hC₀) (fun p hp => ?_) o1⟩
  have z : h₂.get? p.1 = some p.2 := hs₂.extBut _ _ (N' p hp).2.1 (N' p hp).1
  refine ⟨hs''.extBut _ _ ?_ z, (N' p hp).2⟩
  rcases List.mem_cons.mp hp with rfl | hp
  · exact Ne.symm hCD
  · exact offC p hp
theorem SrcZA.call {elt : PySem.Expr} {ifs : List PySem.Expr} {x x₂ : Str} {scope : Scope} {cl : List (Str × Addr)} {y : Str} {Q : Flow → Shared → Prop} {l1 l2 : Addr} {xs ys : List Value} {n1 n2 n : Nat} {news : List (Addr × Obj)} (J : Nat → List Value → Prop)
    (hh : A.handled = none) (F : Fr h₀ L s.heap m) (N : News h₀ L s.heap news) (m1 : (l1, listOf xs.toArray n1) ∈ news) (m2 : (l2, listOf ys.toArray n2) ∈ news) (hsz : n ≤ sizeLine) (hlen : min xs.length ys.length = n) (hJ : J 0 [])
    (turn : ∀ z TI TO i1 i2 i ys' v₁ v₂ g, xs[i]? = some v₁ → ys[i]? = some v₂ → J i ys' → ys'.length ≤ i → ∀ oz oTI oTO o1 o2 C oC D m₂ h tk (E' : Value → Shared → Prop), NsObj oC m₂ → m₂ x = some v₁ → m₂ x₂ = some v₂ → Fr h₀ L h m →
      News h₀ L h ((z, oz) :: (TI, oTI) :: (TO, oTO) :: (i1, o1) :: (i2, o2) :: (C, oC) :: (D, lst ys') :: news) →
      wpAny (model prog w) A (forIn ifs true fun c r => if r = true then do let ok ← isTrue c (compEnvC scope cl C env) (eval c (compEnvC scope cl C env)); pure (ForInStep.yield ok) else pure (ForInStep.yield r)) (fun ok s' => if ok = true then
        wpAny (model prog w) A (eval elt (compEnvC scope cl C env)) (fun y s'' => TurnEnd h₀ L m { s with heap := g, toks := tk } ((z, oz) :: (TI, oTI) :: (TO, oTO) :: (i1, o1) :: (i2, o2) :: (C, oC) :: (D, lst ys') :: news) (J (i + 1) (ys' ++ [y])) s'') E' s'
        else TurnEnd h₀ L m { s with heap := g, toks := tk } ((z, oz) :: (TI, oTI) :: (TO, oTO) :: (i1, o1) :: (i2, o2) :: (C, oC) :: (D, lst ys') :: news) (J (i + 1) ys') s') E' { s with heap := h, toks := tk })
    (fin : ∀ D ys' h tk, J n ys' → Fr h₀ L h (fun z => if z = y then some (.ref D) else m z) → News h₀ L h ((D, lst ys') :: news) → (∀ p ∈ news, p.1 ≠ D) → Q .next { s with heap := h, toks := tk }) :
    wpAny (model prog w) A (call (.type "zip") [.ref l1, .ref l2]) (SrcZA prog w A h₀ L m env elt ifs x x₂ scope cl y Q) E s := by
  have a1 := (N _ m1).1
  have a2 := (N _ m2).1
  have hl1 : s.heap.IsList l1 xs.toArray := ⟨_, a1, rfl, n1, rfl⟩
  have hl2 : s.heap.IsList l2 ys.toArray := ⟨_, a2, rfl, n2, rfl⟩
  refine call_zip_2 hl1 hl2 fun h' hz hTI hTO hi1 hi2 hsz' hk => ?_
  have fr : ∀ b, s.heap.objs.size ≤ b → h₀.get? b = none ∧ b ≠ L ∧ ∀ p ∈ news, p.1 ≠ b := fun b hb => ⟨by
    cases e : h₀.get? b with
    | none => rfl
    | some o' => exact absurd (Heap.lt_size (F.keep b o' e)) (Nat.not_lt.mpr hb), fun e => absurd (e ▸ F.ns.lt) (Nat.not_lt.mpr hb), fun p hp e => absurd (e ▸ Heap.lt_size (N p hp).1) (Nat.not_lt.mpr hb)⟩
  refine fun G k => k _ _ _ _ _ l1 l2 xs ys news J _ _ n rfl hh (zipApart_new (Heap.lt_size a1) (Heap.lt_size a2)) ⟨hz, hTI, ⟨_, _, hTO⟩, hi1, hi2, Heap.IsList.at hl1 (fun o e => hk _ o e), Heap.IsList.at hl2 (fun o e => hk _ o e)⟩ (F.keeps hk) (N.grown hk) ?_ m1 m2 hsz hlen hJ ?_ ?_
  · rintro b (rfl | rfl | rfl | rfl | rfl)
    · exact fr _ (Nat.le_add_right _ _)
    · exact fr _ (Nat.le_add_right _ _)
    · exact fr _ (Nat.le_add_right _ _)
    · exact fr _ (Nat.le_refl _)
    · exact fr _ (Nat.le_add_right _ _)
  · intro i ys' v₁ v₂ e1 e2 j hyl oz oTI oTO o1 o2 C oC D m₂ h tk E' a b c F' N'
    exact turn _ _ _ _ _ i ys' v₁ v₂ _ e1 e2 j hyl oz oTI oTO o1 o2 C oC D m₂ h tk E' a b c F' N'
  · intro D ys' h tk j F' N' o
    exact fin D ys' h tk j F' N' o
end
end Mine
end
section
open PySem PySem.W PyProof.Rows PyProof.V PySem.Calls
set_option Elab.async false
set_option maxRecDepth 100000
namespace Mine
section
variable {prog : Program} {w : World} {A : Around} {E : Value → Shared → Prop} {s : Shared} {env : Env} {h₀ : Heap} {x : Str} {body : List Stmt} {Q : Flow → Shared → Prop}
end
end Mine
end
section
open PySem PySem.W PyProof.Rows PyProof.V PySem.Calls
set_option Elab.async false
set_option maxRecDepth 100000
namespace Mine
theorem AllObj.mono : ∀ {ws : List (Addr × String)} {A B : List (Addr × Obj) → Prop}, AllObj ws A → (∀ its, A its → B its) → AllObj ws B
  | [], _, _, h, k => k _ h
  | _ :: _, _, _, h, k => fun o ho => AllObj.mono (h o ho) fun its q => k _ q
section
variable {prog : Program} {w : World} {A : Around} {E : Value → Shared → Prop} {s : Shared} {env : Env} {h₀ : Heap} {target : PySem.Expr} {body : List Stmt} {Q : Flow → Shared → Prop}
theorem UnrPostW.mono {L : Addr} {s₁ s₂ : Shared} {its : List (Addr × Obj)} {r r' : (Str → Option Value) → List (Addr × Obj) → Prop} {f : Flow} (h : UnrPostW h₀ L s₁ its r Q f s₂) (k : ∀ m n, r m n → r' m n) : UnrPostW h₀ L s₁ its r' Q f s₂ := by
  have g : ∀ {s₂}, UnrEndW h₀ L s₁ its r s₂ → UnrEndW h₀ L s₁ its r' s₂ := fun ⟨h', tk, m', news', e, F, N, o, q⟩ => ⟨h', tk, m', news', e, F, N, o, k _ _ q⟩
  cases f with
  | ret v => exact h
  | brk => exact h
  | next => exact g h
  | cont => exact g h
end
end Mine
end
section
open PySem PySem.W PyProof.Rows
set_option Elab.async false
namespace Mine
theorem see_eq {m : Str → Option Value} {x : Str} {v : Value} (e : m x = some v) : ∃ m' : Str → Option Value, m = fun y => if y = x then some v else m' y := ⟨m, funext fun y => by
  by_cases hy : y = x
  · rw [if_pos hy, hy, e]
  · rw [if_neg hy]⟩
theorem see_in {m : Str → Option Value} {x y : Str} {v : Value} {r : Option Value} (h : (fun z => if z = x then some v else m z) y = r) (n : y ≠ x) : m y = r := by
  have h' : (if y = x then some v else m y) = r := h
  rw [if_neg n] at h'
  exact h'
def lastBody : List Stmt → List Stmt
  | [] => []
  | [.FunctionDef _ _ b _ _ _ _ _ _ _] => b
  | _ :: r => lastBody r
def lastScope : List Stmt → Scope
  | [] => default
  | [.FunctionDef _ _ _ _ _ _ s _ _ _] => s
  | _ :: r => lastScope r
def nthS : List Stmt → Nat → Stmt
  | [], _ => .Pass default
  | s :: _, 0 => s
  | _ :: r, k + 1 => nthS r k
end Mine
end
section
open PySem PySem.W PyProof.Rows
set_option Elab.async false
set_option maxRecDepth 100000
namespace Mine
open Builtin Builtin.Re PySem.Calls
theorem slot_pat_search : Slot "re.Pattern" "search" "re.Pattern.search" :=
  .of (owner := "re.Pattern") (n := "search") (by rw [typeLookup_type, builtinLookup_eq_fast]; kernel_rfl) (by decide +kernel) (by decide +kernel) (by decide +kernel)
    (by first | exact .inl (by decide +kernel) | exact .inr (by decide +kernel)) (by rw [isSubtype_type]; kernel_rfl)
theorem entry_pat_search : entryFor table "re.Pattern.search" = some Builtin.«re.Pattern.search» := entryFor_of_fast (by kernel_rfl)
theorem type_pat_search : typeOf (.builtin "re.Pattern.search") = pure (.type "method_descriptor") := by show builtinType _ = _; rw [builtinType_eq_fast]; kernel_rfl
theorem args_pat_search (a b : Value) : argsOk "re.Pattern.search" ⟨[a, b], []⟩ := by unfold argsOk; kernel_rfl
theorem plain_pat : PlainAttrs "re.Pattern" :=
  ⟨⟨"object.__getattribute__", by rw [typeLookup_type, builtinLookup_eq_fast]; kernel_rfl, by decide +kernel⟩, by rw [typeLookup_type, builtinLookup_eq_fast]; kernel_rfl⟩
theorem getMethod_pat {M : Model} {A : Around} {E : Value → Shared → Prop} {s : Shared} {a : Addr} {o : Obj} {pl : Sem Bool} {Q : Value × List Value → Shared → Prop} (ho : s.heap.get? a = some o) (hc : o.cls = .type "re.Pattern") (hd : o.dict = none)
    (h : Q (.builtin "re.Pattern.search", [.ref a]) s) : wpAny M A (getMethod (.ref a) (Str.ofString "search") pl) Q E s :=
  getMethod_builtin ⟨o, ho, hc⟩ plain_pat slot_pat_search type_pat_search (fun b e => by cases e; exact ⟨o, ho, hd⟩) h
/-! the engine: no sign of the text is of the set -/
def SetNo (code : Array Nat) (c : Nat) : Prop := ∀ seen, ∃ seen', Sre.inSet code c code.size 5 true seen = .ok (false, seen')
theorem admitted_none (m : Sre.M) (h : ∀ i, i < m.lim → SetNo m.code (m.text.getD i 0)) : ∀ fuel s seen, ∃ seen', Sre.M.admitted m fuel s seen = .ok (none, seen')
  | 0, _, seen => ⟨seen, rfl⟩
  | fuel + 1, s, seen => by
    unfold Sre.M.admitted
    by_cases hs : s ≥ m.lim
    · exact ⟨seen, by rw [if_pos hs]⟩
    · obtain ⟨s1, e⟩ := h s (by omega) seen
      obtain ⟨s2, e2⟩ := admitted_none m h fuel (s + 1) s1
      exact ⟨s2, by rw [if_neg hs, e]; exact e2⟩
theorem run_say (m : Sre.M) (ho : m.outcome = none) (ha : m.answer = some false) (hf : m.frames = []) : (m.runFor reTurnSteps).outcome = some .failed := by
  obtain ⟨code, text, lim, start, lastStart, wholeText, mustAdvance, pc, pos, handed, outermost, marks, lastmark, lastindex, loops, inner, frames, weight, answer, seen, outcome⟩ := m
  simp only at ho ha hf
  subst ho ha hf
  rfl
theorem attemptFrom_none (m : Sre.M) (hf : m.hasFirstSet = true) (h : ∀ i, i < m.lim → SetNo m.code (m.text.getD i 0)) (s : Nat) (f : Bool) (ho : m.outcome = none) (hfr : m.frames = []) :
    ((m.attemptFrom s f).runFor reTurnSteps).outcome = some .failed := by
  unfold Sre.M.attemptFrom
  obtain ⟨seen', e⟩ := admitted_none m h (m.lim + 1 - s) s m.seen
  rw [hf, e]
  exact run_say _ ho rfl hfr
def HasSet (code : Array Nat) : Bool := (match Sre.ops[code.getD 0 0]? with | some Sre.Op.INFO => true | _ => false) && code.getD 2 0 == 4
theorem search_none (code x : Array Nat) (g : Nat) (h1 : (Sre.header code).1 = 1) (hf : HasSet code = true) (h : ∀ i, i < x.size → SetNo code (x.getD i 0)) :
    ((Sre.forSearch code x g 0 x.size false).runFor reTurnSteps).outcome = some .failed := by
  unfold Sre.forSearch
  rw [h1]
  dsimp only
  split
  · exact run_say _ rfl rfl rfl
  · refine attemptFrom_none _ ?_ h _ _ rfl rfl
    exact hf
section
variable {M : Model} {A : Around} {E : Value → Shared → Prop} {s : Shared}
theorem drive_end (m : Sre.M) {o : Sre.Outcome} (h : (m.runFor reTurnSteps).outcome = some o) (n : Nat) : reDrive (n + 1) m = pure (m.runFor reTurnSteps) := by
  unfold reDrive
  simp [h]
theorem rules_done {Q : PUnit → Shared → Prop} (c : Nat → Bool) (n : Nat → String) (h : Q ⟨⟩ s) : ∀ l : List Nat, wpAny M A (forIn l PUnit.unit fun i _ => if c i = true then (do
        rule (n i)
        pure (ForInStep.yield PUnit.unit)) else pure (ForInStep.yield PUnit.unit)) Q E s
  | [] => by rw [List.forIn_nil]; exact wpAny_pure h
  | i :: r => by
    rw [List.forIn_cons]
    refine wpAny_bind ?_
    have last := rules_done c n h r
    cases hc : c i with
    | true => exact wpAny_bind (wpAny_rule (wpAny_pure last))
    | false => exact wpAny_pure last
theorem toEnd_none {m : Sre.M} {Q : Option Sre.M → Shared → Prop} (hm : (m.runFor reTurnSteps).outcome = some .failed) (h : Q none s) : wpAny M A (reRunToEnd m) Q E s := by
  unfold reRunToEnd
  have e : (2 ^ 64 : Nat) = (2 ^ 64 - 1) + 1 := by decide
  rw [e, drive_end m hm]
  refine wpAny_bind (wpAny_pure (wpAny_bind ?_))
  refine rules_done _ _ ?_ _
  rw [hm]
  exact wpAny_pure h
end
theorem target_tree (p : Value) (x : Str) (t : Tok) : reTarget "re.Pattern.search" "search" ⟨[p, .str x t], []⟩ = (do
  let fs ← fieldsOf p
  let want := reRawNat (fs.getD 6 .none)
  if (want == 0 && (0 : Nat) == 1) = true then raiseError "TypeError" "cannot use a string pattern on a bytes-like object"
  if (want == 1 && (0 : Nat) == 0) = true then raiseError "TypeError" "cannot use a bytes pattern on a string-like object"
  pure { pattern := p, string := .str x t, code := (← reRawItems (fs.getD 5 .none)).map (·.toNat), text := x.cps, kind := 0, groups := reRawNat (fs.getD 2 .none), pos := min (0 : Int).toNat x.cps.size, lim := min (2 ^ 63 - 1 : Int).toNat x.cps.size }) := rfl
theorem re_search {prog : Program} {w : World} {A : Around} {E : Value → Shared → Prop} {s : Shared} {Q : Value → Shared → Prop} {pat tup : Addr} {x : Str} {t : Tok} {op ot : Obj} {fs items : Array Value} {n : Nat} (code : Array Nat)
    (hp : s.heap.get? pat = some op) (hc : op.cls = .type "re.Pattern") (hd : op.data = .fields fs) (ht : s.heap.get? tup = some ot) (htd : ot.data = .seq items n)
    (h6 : reRawNat (fs.getD 6 .none) = 0) (h5 : fs.getD 5 .none = .ref tup)
    (hcode : (items.map reRawOf).map (·.toNat) = code) (h1 : (Sre.header code).1 = 1) (hf : HasSet code = true)
    (hx : x.length ≤ 1000000) (hn : ∀ i, i < x.cps.size → SetNo code (x.cps.getD i 0)) (h : Q .none s) :
    wpAny (model prog w) A (call (.builtin "re.Pattern.search") [.ref pat, .str x t]) Q E s := by
  refine wpAny_call_entry slot_pat_search ⟨op, hp, hc⟩ entry_pat_search ?_ (args_pat_search _ _)
  unfold Builtin.«re.Pattern.search»
  rw [target_tree]
  refine wpAny_bind (wpAny_bind (wpAny_fieldsOf hp hd ?_))
  dsimp only
  rw [h6, h5]
  simp only [Nat.reduceBEq, Bool.and_false, Bool.false_and, Bool.false_eq_true, if_false]
  refine wpAny_bind ?_
  unfold reRawItems
  refine wpAny_bind (wpAny_seqItems ht htd (wpAny_pure (wpAny_pure ?_)))
  have e0 : min (0 : Int).toNat x.cps.size = 0 := by simp
  have e1 : min (2 ^ 63 - 1 : Int).toNat x.cps.size = x.cps.size := by
    have : x.cps.size ≤ 1000000 := hx
    omega
  simp only [e0, e1, Option.getD_some, hcode]
  unfold reAnswer
  exact wpAny_bind (toEnd_none (search_none _ _ _ h1 hf hn) (wpAny_pure ⟨_, rfl, h⟩))
/-- the two sets of headers.py -/
def nameCode : Array Nat := #[14, 10, 4, 1, 1, 22, 0, 31, 16, 127, 0, 13, 7, 22, 0, 31, 16, 127, 0, 1]
def valueCode : Array Nat := #[14, 14, 4, 1, 1, 9, 4294966783, 0, 0, 2147483648, 0, 0, 0, 0, 0, 13, 11, 9, 4294966783, 0, 0, 2147483648, 0, 0, 0, 0, 0, 1]
theorem nameNo {c : Nat} (h1 : 32 ≤ c) (h2 : c < 127) : SetNo nameCode c := by
  intro seen
  refine ⟨((seen.add 22).add 16).add 0, ?_⟩
  show (if (decide (0 ≤ c) && decide (c ≤ 31)) = true then _ else _) = _
  rw [if_neg (by simp; omega)]
  show (if (c == 127) = true then _ else _) = _
  rw [if_neg (by simp; omega)]
  rfl
theorem valueNo {c : Nat} (h1 : 32 ≤ c) (h2 : c < 127) : SetNo valueCode c := by
  intro seen
  refine ⟨(seen.add 9).add 0, ?_⟩
  show (if (decide (c < 256) && (valueCode.getD (5 + (1 + c / 32)) 0).testBit (c % 32)) = true then _ else _) = _
  rw [if_neg (by rw [(by decide +kernel : ∀ c, c < 127 → 32 ≤ c → (decide (c < 256) && (valueCode.getD (5 + (1 + c / 32)) 0).testBit (c % 32)) = false) c h2 h1]; exact Bool.false_ne_true)]
  rfl
/-- a text of plain signs -/
def Plain (x : Str) : Prop := ∀ i, i < x.cps.size → 32 ≤ x.cps.getD i 0 ∧ x.cps.getD i 0 < 127
section
variable {prog : Program} {w : World} {A : Around} {E : Value → Shared → Prop} {s : Shared} {Q : Value → Shared → Prop} {pat tup : Addr} {x : Str} {t : Tok} {op ot : Obj} {fs items : Array Value} {n : Nat} {K : Frag}
theorem getMethod_patK {M : Model} {pl : Sem Bool} {Q : Value × List Value → Shared → Prop} (X : K.In s.heap) (ho : K.lookup pat = some op) (hc : op.cls = .type "re.Pattern") (hd : op.dict = none)
    (h : Q (.builtin "re.Pattern.search", [.ref pat]) s) : wpAny M A (getMethod (.ref pat) (Str.ofString "search") pl) Q E s := getMethod_pat (X _ _ ho) hc hd h
theorem re_name (X : K.In s.heap) (hp : K.lookup pat = some op) (hc : op.cls = .type "re.Pattern") (hd : op.data = .fields fs) (ht : K.lookup tup = some ot) (htd : ot.data = .seq items n)
    (h6 : reRawNat (fs.getD 6 .none) = 0) (h5 : fs.getD 5 .none = .ref tup) (hcode : (items.map reRawOf).map (·.toNat) = nameCode) (hx : x.length ≤ 1000000) (hn : Plain x) (h : Q .none s) :
    wpAny (model prog w) A (call (.builtin "re.Pattern.search") [.ref pat, .str x t]) Q E s :=
  re_search nameCode (X _ _ hp) hc hd (X _ _ ht) htd h6 h5 hcode (by decide +kernel) (by decide +kernel) hx (fun i hi => nameNo (hn i hi).1 (hn i hi).2) h
theorem re_value (X : K.In s.heap) (hp : K.lookup pat = some op) (hc : op.cls = .type "re.Pattern") (hd : op.data = .fields fs) (ht : K.lookup tup = some ot) (htd : ot.data = .seq items n)
    (h6 : reRawNat (fs.getD 6 .none) = 0) (h5 : fs.getD 5 .none = .ref tup) (hcode : (items.map reRawOf).map (·.toNat) = valueCode) (hx : x.length ≤ 1000000) (hn : Plain x) (h : Q .none s) :
    wpAny (model prog w) A (call (.builtin "re.Pattern.search") [.ref pat, .str x t]) Q E s :=
  re_search valueCode (X _ _ hp) hc hd (X _ _ ht) htd h6 h5 hcode (by decide +kernel) (by decide +kernel) hx (fun i hi => valueNo (hn i hi).1 (hn i hi).2) h
end
end Mine
end
section
open PySem PySem.W PyProof.Rows
set_option Elab.async false
namespace Mine
abbrev hdrDict (tk : Tok) (hsh : Int) (l : Addr) : Obj := dictOf [⟨hsh, .str (Str.ofString "_headers") tk, .ref l⟩] 1
abbrev tab3 (C x dx l : Addr) (tk : Tok) (hsh : Int) (vs : List Value) (n : Nat) : List (Addr × Obj) := [(l, listOf vs.toArray n), (x, instObj C dx), (dx, hdrDict tk hsh l)]
end Mine
end
theorem Mine.slate1 : True := by first | walk1 | trivial
section
open PySem PySem.W PyProof.Rows
set_option Elab.async false
set_option maxRecDepth 100000
set_option maxHeartbeats 2000000
set_option pp.deepTerms true
set_option pp.proofs false
namespace Mine
local macro_rules | `(tactic| walk_at "ent") => `(tactic| ((case kA => exact rfl); (case kF => exact rfl); (case kK => assumption); (case k1 => k_asm); (case k2 => k_asm); (case k3 => k_asm); (case k5 => k_asm); (case k6 => k_is); (case k7 => k_is); (case k8 => ktr_room); (case k9 => (refine' kp_binds ?kx ?ke; (case kx => k_in); (case ke => exact fun _ => rfl))); (case c5 => decide); (case kB => exact locs rfl); (case c2 => exact rfl); (case c3 => exact rfl); (case c4 => exact rfl); k_whole))
local macro_rules | `(tactic| walk_at "getMethod ref") => `(tactic| (k_here; (with_reducible show wpAny _ _ (getMethod (Value.ref _) (PySem.Str.ofString "search") _) _ _ _); k_dflt (refine' getMethod_patK ?X ?ho ?hc ?hd ?_; (case X => k_in); (case ho => k_is); (case hc => exact rfl); (case hd => exact rfl); k_whole)))
local macro_rules | `(tactic| walk_at "call builtin:re.Pattern.search") => `(tactic| (k_here; k_dflt (first
  | (refine' re_name ?X ?hp ?hc ?hd ?ht ?htd ?h6 ?h5 ?hcode ?hx ?hn ?_; (case X => k_in); (case hp => k_is); (case hc => exact rfl); (case hd => exact rfl); (case h6 => exact rfl); (case h5 => exact rfl); (case ht => k_is); (case htd => exact rfl); (case hcode => decide +kernel); (case hx => omega); (case hn => assumption); k_whole)
  | (refine' re_value ?X ?hp ?hc ?hd ?ht ?htd ?h6 ?h5 ?hcode ?hx ?hn ?_; (case X => k_in); (case hp => k_is); (case hc => exact rfl); (case hd => exact rfl); (case h6 => exact rfl); (case h5 => exact rfl); (case ht => k_is); (case htd => exact rfl); (case hcode => decide +kernel); (case hx => omega); (case hn => assumption); k_whole))))
theorem conv {w : World} {p : Program} {loose : List Str} {mean : ExcName → Option Value} {mg mb : Str → Option Value} (x : Str) (t : Tok) (v : Value) (b : Bool) (hl : x.length ≤ 1000) (hp : Plain x) :
    PurK PySem.Challenge.rw_pg0249_01.row.prog w (hd1.heap_39 w.params) p loose mean mg mb 5 50 97 [v, .str x t] [(Str.ofString "name", .bool b)] (fun _ => True) (fun _ => .str x t) := by
  k_fill
  intro dp un gd cn cs a ccd cl outer A₀ base h₀ L m s Q E B F X T hk hd hu _ hret
  refine wpAny_call ?_
  have N : News h₀ L s.heap [] := News.nil
  k_dflt (refine' code_sub (binds := [(Str.ofString "self", v), (Str.ofString "value", .str x t), (Str.ofString "name", .bool b)]) ?k1 ?k2 ?k3 N ?k5 ?kA ?kF ?kK ?k6 ?k7 ?k8 ?k9 ?kB ?_ ?c2 ?c3 ?c4 ?c5; walk_at "ent")
  intro g' L' h' tk' hk0 _ FG' F' N' B' X' T'
  replace hk0 : ∀ b o, s.heap.get? b = some o → g'.get? b = some o := fun b o e => hk0 b o e (by intro hb; cases hb)
  (try dsimp only)
  with_reducible show wpAny _ _ _ _ _ _
  k_fold
  k_steps
  all_goals try exact hret t _ _ (by k_asm) (fun b o e => Fr.keep (h₀ := g') (by assumption) b o (hk0 b o e))
end Mine
end
theorem Mine.slate2 : True := by first | walk1 | trivial
section
open PySem PySem.W PyProof.Rows
set_option Elab.async false
set_option maxRecDepth 100000
set_option maxHeartbeats 2000000
set_option pp.deepTerms true
set_option pp.proofs false
namespace Mine
local macro_rules | `(tactic| walk_at "ent") => `(tactic| ((case kA => exact rfl); (case kF => exact rfl); (case kK => assumption); (case k1 => k_asm); (case k2 => k_asm); (case k3 => k_asm); (case k5 => k_asm); (case k6 => k_is); (case k7 => k_is); (case k8 => ktr_room); (case kP => exact rfl); (case c5 => decide); (case kB => exact fun _ => locs rfl); (case c2 => exact rfl); (case c3 => exact rfl); (case c4 => exact rfl); k_whole))
local macro_rules | `(tactic| walk_at "call ref") => `(tactic| (k_here; (with_reducible show wpAny _ _ (call (Value.ref 97) _ _) _ _ _); k_dflt (refine' conv _ _ _ _ ?hl ?hp _ _ _ _ _ _ _ _ _ _ _ _ _ _ _ _ _ ?B ?F ?X ?T ?kK ?kd ?ku trivial ?_; (case B => k_asm); (case F => k_asm); (case X => k_asm); (case T => k_asm); (case kK => first | exact rfl | assumption); (case kd => ktr_room); (case ku => ktr_units); (case hl => omega); (case hp => assumption); k_whole); (with_reducible rename News _ _ _ _ => N9'); intro t9 h9 tk9 F9 k9; (replace N9' := news_kept N9' k9); clear k9; (try dsimp only); (try k_fold)))
theorem drop3 {h₀ h : Heap} {L : Addr} {a b c d : Addr × Obj} {l : List (Addr × Obj)} (N : News h₀ L h (a :: b :: c :: d :: l)) : News h₀ L h (a :: l) := fun p hp => by
  rcases List.mem_cons.mp hp with rfl | hp
  · exact N _ (.head _)
  · exact N p (.tail _ (.tail _ (.tail _ (.tail _ hp))))
theorem allHead {d : Addr} {p : Addr × Obj} {l : List (Addr × Obj)} (h : AllLt d (p :: l)) : p.1 < d := h.1
theorem allTail {d : Addr} {a b c : Addr × Obj} {l : List (Addr × Obj)} (h : AllLt d (a :: b :: c :: l)) : ∀ p ∈ l, p.1 < d := fun p hp => kst_ltOf h p (.tail _ (.tail _ (.tail _ hp)))
theorem updMk {d : Addr} {o o' : Obj} {pre post : List (Addr × Obj)} (a : ∀ p ∈ pre, p.1 ≠ d) (c : ∀ p ∈ post, p.1 ≠ d) : Upd d o o' (pre ++ (d, o) :: post) (pre ++ (d, o') :: post) := by
  induction pre with
  | nil => exact .head c
  | cons p r ih => exact .tail (a p (.head _)) (ih fun q hq => a q (.tail _ hq))
local macro_rules | `(tactic| walk_at "call builtin:list.append") => `(tactic| (k_here; (with_reducible show wpAny _ _ (call (Value.builtin _) [Value.ref _, Value.ref _]) _ _ _); refine Hold.out ?_))
local macro_rules | `(tactic| walk_at "none at all") => `(tactic| (k_here; (with_reducible show wpAny _ _ (call (Value.builtin _) [Value.ref _, Value.ref _]) _ _ _); k_dflt (refine' append_K ?k1 ?k2 ?k3 ?_ ?z; (case k1 => k_asm); (case k2 => k_asm); (case k3 => k_upd); (case z => (rw [sizeLine_eq]; simp only [List.size_toArray]; omega)); k_whole); intro h' F' N'; (try k_sweep)))
theorem addh {w : World} {p : Program} {loose : List Str} {mean : ExcName → Option Value} {mg mb : Str → Option Value} (dp un : Nat) (gd : Option (List Code)) (cn : Str) (cs : Scope) (a : Addr) (ccd : Value) (cl : List (Str × Addr)) (outer : List Env) (A₀ : Around) (base h₀ : Heap) (L : Addr) (m : Str → Option Value) (s : Shared) (Q E : Value → Shared → Prop)
    (x dx l : Addr) (tkd : Tok) (hsh : Int) (vs : List Value) (n : Nat) (k v : Str) (t1 t2 : Tok) (more : List (Addr × Obj))
    (B : Below A₀ base outer h₀) (F : Fr h₀ L s.heap m) (X : (hd1.heap_39 w.params).In h₀) (T : Top p loose mean mg mb h₀) (hk : cs.kind = .function) (hd : dp + 20 < recursionLimit) (hu : un + 200 < cLine)
    (N : News h₀ L s.heap (tab3 196 x dx l tkd hsh vs n ++ more)) (hml : ∀ p ∈ more, p.1 ≠ l) (hv : vs.length ≤ 1000) (h1 : x < l) (h2 : dx < l) (h3 : dx < x) (hk1 : k.length ≤ 1000) (hk2 : Plain k) (hv1 : v.length ≤ 1000) (hv2 : Plain v)
    (hret : ∀ T t3 t4 n' h' tk', Fr h₀ L h' m → News h₀ L h' ((T, ({ cls := .type "tuple", data := .seq #[.str k t3, .str v t4] } : Obj))   :: (tab3 196 x dx l tkd hsh (vs ++ [.ref T]) n' ++ more)) → (∀ p ∈ more, p.1 < T) → Q .none { s with heap := h', toks := tk' }) :
    wpAny (model PySem.Challenge.rw_pg0249_01.row.prog w) (ktrTop dp un gd cn cs L a ccd cl outer) (call (.ref 193) [.ref x, .str k t1, .str v t2]) Q E s := by
  revert X; k_fill; intro X
  refine wpAny_call ?_
  k_dflt (refine' code_more0 (binds := fun D => [(Str.ofString "self", .ref x), (Str.ofString "_name", .str k t1), (Str.ofString "_value", .str v t2), (Str.ofString "_params", .ref D)]) ?k1 ?k2 ?k3 N ?k5 ?kA ?kF ?kK ?k6 ?k7 ?k8 ?kP ?kB ?_ ?c2 ?c3 ?c4 ?c5; walk_at "ent")
  intro D' o' l1 _ lo' hs' fs' g' L' h' tk' hk0 l2 FG' F' N' B' X' T'
  (have l1c := l1)
  (try k_lt l1)
  (try k_lt l2)
  replace h1 := ltN h1
  replace h2 := ltN h2
  replace h3 := ltN h3
  (try dsimp only)
  with_reducible show wpAny _ _ _ _ _ _
  k_fold
  k_steps
  refine Hold.mk ?_
  (repeat ((with_reducible rename _ ∧ _ => hh9); obtain ⟨_, _⟩ := hh9))
  (with_reducible rename Fr g' _ _ _ => F9)
  (with_reducible rename News g' _ _ _ => N9)
  have N8 := drop3 N9
  clear N9
  k_dflt (refine' append_K F9 N8 (updMk (pre := [_]) (post := (x, instObj 196 dx) :: (dx, hdrDict tkd hsh l) :: more) ?k3 ?k4) ?_ ?z)
  case k3 =>
    intro p hp
    rw [List.mem_singleton.mp hp]
    refine Nat.ne_of_gt (allHead (p := (l, listOf vs.toArray n)) (l := (x, instObj 196 dx) :: (dx, hdrDict tkd hsh l) :: more) ?_)
    assumption
  case k4 =>
    intro p hp
    rcases List.mem_cons.mp hp with rfl | hp
    · exact Nat.ne_of_lt h1
    rcases List.mem_cons.mp hp with rfl | hp
    · exact Nat.ne_of_lt h2
    · exact hml p hp
  case z =>
    rw [sizeLine_eq]
    simp only [List.size_toArray]
    omega
  intro h9 F9 N9
  simp only [List.cons_append, List.nil_append, List.push_toArray, join_one] at N9
  k_steps
  (with_reducible rename Fr h₀ L _ m => kF)
  (with_reducible rename News h₀ L _ (_ :: _) => kN)
  refine hret _ t1 _ (n + 1) _ _ kF kN fun p hp => ?_
  refine allTail (a := (l, listOf vs.toArray n)) (b := (x, instObj 196 dx)) (c := (dx, hdrDict tkd hsh l)) (l := more) ?_ p hp
  assumption
end Mine
end
section
open PySem PySem.W PyProof.Rows PyProof.V PySem.Calls
set_option Elab.async false
set_option maxRecDepth 100000
namespace Mine
section
variable {prog : Program} {w : World} {A : Around} {E : Value → Shared → Prop} {s : Shared} {env : Env} {h₀ : Heap} {target : PySem.Expr} {body : List Stmt} {Q : Flow → Shared → Prop}
theorem valRest_ind {ws : List (Addr × String)} {keep : List (Addr × Obj)} {vs : List Value} (J : Nat → (Str → Option Value) → List (Addr × Obj) → Prop)
    (step : ∀ i v m news, vs[i]? = some v → J i m news → ∀ h tk, Fr h₀ env.locals h m → AllObj ws (fun its => News h₀ env.locals h (its ++ news) →
      wpAny (model prog w) A (assign target env v) (fun _ s₂ => wpAny (model prog w) A (execs body env) (UnrPostW h₀ env.locals { s with heap := h, toks := tk } its (fun m' n' => SubL keep n' ∧ J (i + 1) m' n') Q) E s₂) E { s with heap := h, toks := tk }))
    (fin : ∀ m news, J vs.length m news → ∀ h tk, Fr h₀ env.locals h m → News h₀ env.locals h news → Q .next { s with heap := h, toks := tk }) :
    ∀ k i m news, k + i = vs.length → J i m news → ItemsRest prog w A E h₀ env target body Q s ws keep ((vs.drop i).map .val) m news
  | 0, i, m, news, e, j => by
    have hi : i = vs.length := by omega
    subst hi
    rw [List.drop_length]
    exact ItemsRest.zero (fin m news j)
  | k + 1, i, m, news, e, j => by
    have hlt : i < vs.length := by omega
    rw [List.drop_eq_getElem_cons hlt]
    refine ItemsRest.val fun h tk F => AllObj.mono (step i _ m news (List.getElem?_eq_getElem hlt) j h tk F) fun its g N => ?_
    refine wpAny_mono (g N) (fun _ s₂ q => wpAny_mono q (fun f s' p => ?_) fun _ _ e => e) fun _ _ e => e
    exact UnrPostW.mono p fun m' n' q => ⟨q.1, valRest_ind J step fin k (i + 1) m' n' (by omega) q.2⟩
end
end Mine
end
theorem Mine.slate3 : True := by first | walk1 | trivial
section
open PySem PySem.W PyProof.Rows
set_option Elab.async false
set_option maxRecDepth 100000
set_option maxHeartbeats 2000000
set_option pp.deepTerms true
set_option pp.proofs false
namespace Mine
local macro_rules | `(tactic| walk_at "ent") => `(tactic| ((case kA => exact rfl); (case kF => exact rfl); (case kK => assumption); (case k1 => k_asm); (case k2 => k_asm); (case k3 => k_asm); (case k5 => k_asm); (case k6 => k_is); (case k7 => k_is); (case k8 => ktr_room); (case k9 => first | exact BindsTo.of_eq rfl | (refine' kp_binds ?kx ?ke; (case kx => k_in); (case ke => exact fun _ => rfl))); (case kB => exact locs rfl); (case c5 => decide); (case c2 => exact rfl); (case c3 => exact rfl); (case c4 => exact rfl); k_whole))
local macro_rules | `(tactic| walk_at "exec For") => `(tactic| (k_here; (with_reducible rename Unit => u9'); clear u9'; refine Hold.out ?_))
local macro_rules | `(tactic| walk_at "pyIter ref") => `(tactic| (k_here; refine Hold.out ?_))
theorem mkTable {w : World} {p : Program} {loose : List Str} {mean : ExcName → Option Value} {mg mb : Str → Option Value} (dp un : Nat) (gd : Option (List Code)) (cn : Str) (cs : Scope) (a : Addr) (ccd : Value) (cl : List (Str × Addr)) (outer : List Env) (A₀ : Around) (base h₀ : Heap) (L : Addr) (m : Str → Option Value) (s : Shared) (Q E : Value → Shared → Prop) (news : List (Addr × Obj)) (N : News h₀ L s.heap news)
    (B : Below A₀ base outer h₀) (F : Fr h₀ L s.heap m) (X : (hd1.heap_39 w.params).In h₀) (T : Top p loose mean mg mb h₀) (hk : cs.kind = .function) (hd : dp + 20 < recursionLimit) (hu : un + 200 < cLine)
    (hret : ∀ x dx l tkd hsh h' tk', Fr h₀ L h' m → News h₀ L h' (tab3 196 x dx l tkd hsh [] 0 ++ news) → x < l → dx < l → dx < x → (∀ p ∈ news, p.1 < dx) → Q (.ref x) { s with heap := h', toks := tk' }) :
    wpAny (model PySem.Challenge.rw_pg0249_01.row.prog w) (ktrTop dp un gd cn cs L a ccd cl outer) (call (.ref 196) []) Q E s := by
  revert X; k_fill; intro X
  have hold0 : Unit := ()
  k_dflt (refine' call_cls ?k1 ?k2 ?k3 ?k4 ?k5 ?k6 ?_; (case k1 => k_asm); (case k2 => k_asm); (case k3 => k_asm); (case k4 => k_is); (case k5 => k_is); (case k6 => k_is); k_whole; intro x' d' h9 F9 N9 l1 l2; (have l1c := l1); (try k_lt l1); (try k_lt2 l2))
  k_dflt (refine' code_sub (binds := [(Str.ofString "self", .ref x'), (Str.ofString "headers", .none)]) ?k1 ?k2 ?k3 N9 ?k5 ?kA ?kF ?kK ?k6 ?k7 ?k8 ?k9 ?kB ?_ ?c2 ?c3 ?c4 ?c5; walk_at "ent")
  intro g' L' h' tk' hk0 l3 FG' F' N' B' X' T'
  (try k_lt l3)
  have Nsub := N9
  replace N' := N'
  (try dsimp only)
  with_reducible show wpAny _ _ _ _ _ _
  k_fold
  k_steps
  refine Hold.mk ?_
  (with_reducible rename Fr _ _ _ _ => F1)
  (with_unfolding_all refine' For_turns F1 ?_ ?_ ?_; k_whole)
  k_steps
  refine Hold.mk ?_
  (with_reducible rename Fr _ _ _ _ => F1)
  (with_reducible rename News g' _ _ (_ :: _) => N1)
  (with_unfolding_all refine iter_listTurns (vs := []) (by rfl) F1 N1 (.head _) rfl rfl fun I hI => ?_)
  refine ItemsRest.zero fun h9 tk9 F9 N9 => ?_
  (try dsimp only)
  k_steps
  (with_reducible rename Fr h₀ L _ m => kF)
  (with_reducible rename News h₀ L _ (_ :: _) => kN)
  refine hret _ _ _ _ _ _ _ kF kN ?_ ?_ l2 l1c
  all_goals ((repeat ((with_reducible rename _ ∧ _ => hh9); obtain ⟨_, _⟩ := hh9)); assumption)
end Mine
end
section
open PySem PySem.W PyProof.Rows
set_option Elab.async false
set_option maxRecDepth 100000
namespace Mine
theorem layNew_led (t : SetTable) (es : Array (Int × Value)) (h : Int) (x : Value) : (layNew t es h x).2.1.led = t.led := by
  unfold layNew
  split
  · dsimp only
    unfold SetTable.orStandIn
    split <;> rfl
  · rfl
theorem relaid_keeps {t t' : SetTable} {hs : Array Int} {n : Nat} {order : Array Nat} (h : t.relaid hs n = some (t', order)) : t'.led = t.led ∧ t'.plain = t.plain := by
  unfold SetTable.relaid SetTable.laid at h
  cases e : SetTable.layClean (SetTable.sizeAbove n - 1) hs with
  | none => rw [e] at h; cases h
  | some o =>
    rw [e] at h
    injection h with h
    injection h with h1 h2
    subst h1
    exact ⟨rfl, rfl⟩
theorem relayAll_led (t : SetTable) (es : Array (Int × Value)) (n : Nat) : (relayAll t es n).2.1.led = t.led := by
  unfold relayAll
  split
  · rename_i e
    dsimp only
    split
    · exact (relaid_keeps e).1
    · rfl
  · rfl
theorem relayAll_plain (t : SetTable) (es : Array (Int × Value)) (n : Nat) (h : t.plain = false) : (relayAll t es n).2.1.plain = false := by
  unfold relayAll
  split
  · rename_i e
    dsimp only
    split
    · exact (relaid_keeps e).2.trans h
    · rfl
  · rfl
/-- a set of texts -/
def StrSet (prog : Program) (w : World) (o : Obj) (ss : List Str) : Prop :=
  o.ExactSet ∧ ∃ es ep t, o.data = .set es ep t ∧ ElemsOf (strKind prog w) es.toList ∧ (∃ ks, StrsAre (es.toList.map (·.2)) ks ∧ ks.Perm ss) ∧ t.fits es.size = true ∧ t.led = !w.params.followText "set-order" ∧ (1 ≤ es.size → t.plain = false)
theorem strsPerm {vs us : List Value} {ss : List Str} (h : StrsAre vs ss) (p : us.Perm vs) : ∃ ks, StrsAre us ks ∧ ks.Perm ss := by
  refine ⟨us.map strOf, strsAre_map us fun v hv => h.all v (p.mem_iff.mp hv), ?_⟩
  rw [← h.strs]
  exact p.map _
theorem strsMem {vs : List Value} {ss : List Str} (h : StrsAre vs ss) {x : Str} : x ∈ ss ↔ ∃ t, Value.str x t ∈ vs := by
  induction h with
  | nil => simp
  | cons y t _ ih =>
    simp only [List.mem_cons, ih]
    constructor
    · rintro (rfl | ⟨u, hu⟩)
      · exact ⟨t, .inl rfl⟩
      · exact ⟨u, .inr hu⟩
    · rintro ⟨u, hu | hu⟩
      · injection hu with e _
        exact .inl e
      · exact .inr ⟨u, hu⟩
theorem strs_snoc0 {vs : List Value} {ss : List Str} (h : StrsAre vs ss) (x : Str) (t : Tok) : StrsAre (vs ++ [.str x t]) (ss ++ [x]) := by
  induction h with
  | nil => exact .cons x t .nil
  | cons y u _ ih => exact .cons y u ih
section
variable {prog : Program} {w : World} {A : Around} {E : Value → Shared → Prop} {s : Shared}
theorem StrSet.size {o : Obj} {ss : List Str} {es : Array (Int × Value)} {ep : Nat} {t : SetTable} (h : StrSet prog w o ss) (hd : o.data = .set es ep t) : es.size = ss.length := by
  obtain ⟨_, es', ep', t', hd', _, ⟨ks, h1, h2⟩, _⟩ := h
  rw [hd] at hd'
  injection hd' with e1 _ _
  subst e1
  rw [← h2.length_eq, ← h1.length]
  simp
theorem isStrHere (x : Str) (t : Tok) : (PySem.strKind prog w).is x (.str x t) = true := by
  show Value.isStrOf x (.str x t) = true
  simp [Value.isStrOf]
theorem storedAt {h : Heap} {a : Addr} {o : Obj} {es es' : Array (Int × Value)} {ep : Nat} {t t' : SetTable} (ho : h.get? a = some o) (hd : o.data = .set es ep t) : (h.update a (Obj.putSet es' t')).get? a = some { o with data := .set es' (ep + 1) t' } := by
  have := Heap.get?_update_self (Obj.putSet es' t') ho (by rw [putSet_of es' t' hd]; rfl)
  rw [putSet_of es' t' hd] at this
  exact this
theorem set_add {a : Addr} {o : Obj} {ss : List Str} {x : Str} {t : Tok} {Q : Bool → Shared → Prop} (ho : s.heap.get? a = some o) (hs : StrSet prog w o ss) (hb : ss.length + 1 < scanBound)
    (h : ∀ b h' o', Heap.SameBut a s.heap h' → h'.get? a = some o' → StrSet prog w o' (if x ∈ ss then ss else ss ++ [x]) → Q b { s with heap := h' }) :
    wpAny (model prog w) A (setAddHashed a (.str x t) ((strKind prog w).hash x)) Q E s := by
  obtain ⟨hex, es, ep, tb, hd, hel, ⟨ks, k1, k2⟩, hf, hled, hpl⟩ := id hs
  have hn : es.size = ss.length := hs.size hd
  have hkey : (strKind prog w).is x (.str x t) = true := isStrHere _ _
  have hsc : (Value.str x t).scannable = true := rfl
  unfold setAddHashed setAddHashedIn
  refine wpAny_holding (wpAny_bind (wpAny_setState_of ho hd hf ?_))
  dsimp only
  rw [byScan_of hsc (by omega) hel]
  simp only [↓reduceIte]
  unfold setAddByScan
  refine wpAny_bind ?_
  refine wpAny_bind (wpAny_rule ?_)
  refine wpAny_bind (wpAny_setScan_of hkey ho hd hf hel ?_)
  have hmem : x ∈ ss ↔ ∃ e ∈ es.toList, (strKind prog w).is x e.2 = true := by
    rw [← k2.mem_iff, strsMem k1]
    constructor
    · rintro ⟨u, hu⟩
      obtain ⟨e, he, q⟩ := List.mem_map.mp hu
      exact ⟨e, he, by rw [q]; exact isStrHere _ _⟩
    · rintro ⟨e, he, q⟩
      obtain ⟨y, u, q2⟩ := k1.all e.2 (List.mem_map_of_mem he)
      have : y = x := (strKind prog w).inj e.2 y x (by rw [q2]; exact isStrHere _ _) q
      subst this
      exact ⟨u, List.mem_map.mpr ⟨e, he, q2⟩⟩
  cases hr : List.findIdx? (fun e => (strKind prog w).is x e.2) es.toList with
  | some j =>
    dsimp only
    obtain ⟨hj, hpj, _⟩ := List.findIdx?_eq_some_iff_getElem.mp hr
    have hx : x ∈ ss := hmem.mpr ⟨_, List.getElem_mem hj, hpj⟩
    rw [if_pos hx] at h
    exact wpAny_pure (wpAny_pure (h _ s.heap o (Heap.SameBut.refl a s.heap) ho hs))
  | none =>
    dsimp only
    have hx : x ∉ ss := fun hx => by
      obtain ⟨e, he, hp⟩ := hmem.mp hx
      have := List.findIdx?_eq_none_iff.mp hr e he
      rw [hp] at this
      cases this
    rw [if_neg hx] at h
    have hgw : ∀ (b : Bool) {s₁ : Shared} {Q' : Unit → Shared → Prop}, Q' () s₁ → wpAny (model prog w) A (match b with | true => rule "set.scan.the-table-gave-way" | false => pure ()) Q' E s₁ :=
      fun b s₁ Q' hq => by cases b <;> first | exact wpAny_pure hq | exact wpAny_rule hq
    have hperm := layNew_perm tb es ((strKind prog w).hash x) (.str x t)
    have hfits := layNew_fits tb es ((strKind prog w).hash x) (.str x t)
    have hld := layNew_led tb es ((strKind prog w).hash x) (.str x t)
    generalize layNew tb es ((strKind prog w).hash x) (.str x t) = Lr at hperm hfits hld ⊢
    obtain ⟨es1, t1, wasDummy, gave⟩ := Lr
    dsimp only at hperm hfits hld ⊢
    rw [Array.toList_push] at hperm
    have hel1 : ElemsOf (strKind prog w) es1.toList := (hel.push hkey hsc).perm hperm
    have hsz1 : es1.size = ss.length + 1 := by rw [← Array.length_toList, hperm.length_eq, List.length_append, Array.length_toList, hn]; rfl
    have hks : ∃ ks, StrsAre (es1.toList.map (·.2)) ks ∧ ks.Perm (ss ++ [x]) := by
      have p1 := hperm.map (·.2)
      rw [List.map_append] at p1
      obtain ⟨ks', q1, q2⟩ := strsPerm (strs_snoc0 k1 x t) p1
      exact ⟨ks', q1, q2.trans (k2.append_right _)⟩
    refine wpAny_bind (hgw _ ?_)
    have key : ∀ t2 : SetTable, t2.fits es1.size = true → t2.led = tb.led → t2.plain = false → wpAny (model prog w) A (do
        storeSet a es1 t2
        if (!wasDummy && t2.tooFull) = true then do
            (match (relayAll t2 es1 (SetTable.grown es1.size)).2.2 with | true => rule "set.scan.the-table-gave-way" | false => pure ())
            storeSet a (relayAll t2 es1 (SetTable.grown es1.size)).1 (relayAll t2 es1 (SetTable.grown es1.size)).2.1
            pure (some true)
          else pure (some true)) (fun (r : Option Bool) s' => wpAny (model prog w) A (match r with | some added => pure added | none => setAddHashedIn a (.str x t) ((strKind prog w).hash x) 99999) Q E s') E s := by
      intro t2 f2 l2 p2
      refine wpAny_bind (wpAny_storeSet_of ho hd ?_ (fits_of_scanBound (by omega)))
      have ho1 := storedAt (es' := es1) (t' := t2) ho hd
      have hsb1 := Heap.SameBut.update s.heap a (Obj.putSet es1 t2)
      split
      · have hp := relayAll_perm t2 es1 (SetTable.grown es1.size)
        have hfr := relayAll_fits t2 es1 (SetTable.grown es1.size)
        have hlr := relayAll_led t2 es1 (SetTable.grown es1.size)
        have hpr := relayAll_plain t2 es1 (SetTable.grown es1.size) p2
        generalize relayAll t2 es1 (SetTable.grown es1.size) = Rl at hp hfr hlr hpr ⊢
        obtain ⟨es2, t3, gave2⟩ := Rl
        dsimp only at hp hfr hlr hpr ⊢
        have hsz : es2.size = es1.size := by rw [← Array.length_toList, hp.length_eq, Array.length_toList]
        refine wpAny_bind (hgw _ ?_)
        refine wpAny_bind (wpAny_storeSet_of ho1 rfl ?_ (fits_of_scanBound (by omega)))
        refine wpAny_pure (wpAny_pure (h _ _ _ (hsb1.trans (Heap.SameBut.update _ a _)) (storedAt ho1 rfl) ⟨hex, es2, _, t3, rfl, hel1.perm hp, ?_, hfr, (hlr.trans l2).trans hled, fun _ => hpr⟩))
        obtain ⟨ks', q1, q2⟩ := hks
        obtain ⟨ks2, r1, r2⟩ := strsPerm q1 (hp.map (·.2))
        exact ⟨ks2, r1, r2.trans q2⟩
      · exact wpAny_pure (wpAny_pure (h _ _ _ hsb1 ho1 ⟨hex, es1, _, t2, rfl, hel1, hks, f2, l2.trans hled, fun _ => p2⟩))
    split
    · refine wpAny_bind ?_
      rw [hashByValue_scannable 8 hsc]
      refine wpAny_pure ?_
      exact key _ (SetTable.fits_plain_off hfits) hld rfl
    · refine wpAny_bind (wpAny_pure ?_)
      rename_i hp
      exact key t1 hfits hld (by simpa using hp)
end
end Mine
end
section
open PySem PySem.W PyProof.Rows
set_option Elab.async false
set_option maxRecDepth 100000
set_option maxHeartbeats 3200000
namespace Mine
def met (l : List Nat) (i : Nat) : List Str := (l.take i).foldl (fun ss c => if (⟨#[c]⟩ : Str) ∈ ss then ss else ss ++ [⟨#[c]⟩]) []
theorem met_succ {l : List Nat} {i c : Nat} (h : l[i]? = some c) : met l (i + 1) = if (⟨#[c]⟩ : Str) ∈ met l i then met l i else met l i ++ [⟨#[c]⟩] := by
  unfold met
  rw [List.take_add_one, h, Option.toList_some, List.foldl_append]
  rfl
theorem met_len (l : List Nat) : ∀ i, i ≤ l.length → (met l i).length ≤ i
  | 0, _ => by simp [met]
  | i + 1, h => by
    have ih := met_len l i (by omega)
    rw [met_succ (List.getElem?_eq_getElem (by omega))]
    split
    · omega
    · rw [List.length_append, List.length_singleton]
      omega
section
variable {prog : Program} {w : World} {A : Around} {R : Result → Shared → Prop} {I : Addr} {fp wr : List Addr} {G : Array GenState → Array GenState → Prop} {St : Nat → Shared → Prop}
theorem set_update_str {x : Str} (W : WalksS prog w A.in1 I fp wr G x.cps.size (SignAt x) St) (S : Addr) (hSf : S ∉ fp) (hb : x.cps.size + 1 < scanBound) :
    ∀ (k i : Nat) (s : Shared) (o : Obj), x.cps.size - i = k → i ≤ x.cps.size → St i s → s.heap.get? S = some o → StrSet prog w o (met x.cps.toList i) →
      (∀ s' o', Moved (S :: wr) G s s' → s'.heap.get? S = some o' → StrSet prog w o' (met x.cps.toList x.cps.size) → R (.ok (.ret .none)) s') →
      codeAny (model prog w) A (.builtin "set.update.loop" ⟨[.ref S, .ref I], []⟩) R s := by
  have hSw : S ∉ wr := fun h => hSf (W.sub _ h)
  have hsub : ∀ b ∈ wr, b ∈ S :: wr := fun b hb => List.mem_cons_of_mem _ hb
  intro k
  induction k with
  | zero =>
    intro i s o hk hi hst hS hs hR
    have hin : i = x.cps.size := by omega
    subst hin
    refine codeAny_builtin PyProof.Rows.F.entry_set_update_loop ?_
    rw [Around.under_plainId PyProof.Rows.F.plain_set_update_loop _]
    show wpAny _ A.in1 (pyNext (.ref I) >>= _) _ _ s
    refine wpAny_bind (W.done s _ _ hst fun s' hm => ?_)
    show wpAny _ A.in1 (ret Value.none) _ _ s'
    exact wpAny_pure (hR s' o (hm.mono hsub) (hm.heap S _ hSw hS) hs)
  | succ k ih =>
    intro i s o hk hi hst hS hs hR
    have hlt : i < x.cps.size := by omega
    refine codeAny_builtin PyProof.Rows.F.entry_set_update_loop ?_
    rw [Around.under_plainId PyProof.Rows.F.plain_set_update_loop _]
    show wpAny _ A.in1 (pyNext (.ref I) >>= _) _ _ s
    refine wpAny_bind (W.item i s _ _ hlt hst fun v s' hP hst' hm => ?_)
    obtain ⟨c, t, hc, rfl⟩ := hP
    have hS' := hm.heap S _ hSw hS
    show wpAny _ A.in1 (holding [Value.str ⟨#[c]⟩ t] (setAdd S (.str ⟨#[c]⟩ t)) >>= _) _ _ s'
    refine wpAny_bind (wpAny_holding ?_)
    unfold setAdd
    refine wpAny_holding ?_
    refine wpAny_bind ((PySem.strKind prog w).pyHash (k := ⟨#[c]⟩) (isStrHere _ _) ?_)
    have hml := met_len x.cps.toList i (by simpa using hi)
    refine set_add (s := { s' with toks := s'.toks + 1 }) (ss := met x.cps.toList i) hS' hs (by omega) fun _ h' o' hsb ho' hs' => ?_
    rw [← met_succ (by simpa using hc)] at hs'
    refine wpAny_pure ⟨plainId_quiet PyProof.Rows.F.plain_set_update_loop _, ih (i + 1) _ o' (by omega) hlt (W.frame _ s' _ _ hst' (Nat.le_succ _) fun b hb o e => ?_) ho' hs' fun s'' o'' hm'' ho'' hs'' => ?_⟩
    · rw [hsb.2 b (fun h : b = S => hSf (by rw [← h]; exact hb))]
      exact e
    · refine hR s'' o'' (Moved.trans W.gtrans ((hm.mono hsub).then_heap (Nat.le_succ _) fun b o hb e => ?_) hm'') ho'' hs''
      rw [hsb.2 b (fun h : b = S => hb (by rw [h]; exact List.mem_cons_self))]
      exact e
end
theorem sub_str_set : isSubtype (.type "str") (.type "set") = pure false := by rw [isSubtype_type]; kernel_rfl
theorem sub_str_frozenset : isSubtype (.type "str") (.type "frozenset") = pure false := by rw [isSubtype_type]; kernel_rfl
section
variable {prog : Program} {w : World} {A : Around} {E : Value → Shared → Prop} {s : Shared}
abbrev newSetObj (w : World) : Obj := { cls := .type "set", dict := none, data := .set #[] 0 (.fresh 0 0 (!w.params.followText "set-order")) }
theorem newSet_strSet : StrSet prog w (newSetObj w) [] := ⟨⟨rfl, rfl, rfl⟩, #[], 0, _, rfl, fun e he => by simp at he, ⟨[], .nil, .nil⟩, by rfl, rfl, fun h => absurd h (by decide)⟩
theorem set_new_1 (a : Value) {Q₁ : Value → Shared → Prop} (h : Q₁ (.ref s.heap.objs.size) { s with heap := s.heap.push (newSetObj w) }) :
    codeAny (model prog w) A (.call (.builtin "set.__new__") ⟨[.type "set", a], []⟩) (wants Q₁ E) s := by
  refine codeAny_of_tree ?_
  show wpAny _ A.in1 (do checkBuiltinCall "set.__new__" ⟨[.type "set", a], []⟩; again (.builtin "set.__new__" ⟨[.type "set", a], []⟩)) _ _ s
  refine wpAny_bind (wpAny_of_eq (PySem.F.newCall_set_1 a) (wpAny_pure ⟨plainId_quiet PySem.F.plain_set_new _, codeAny_builtin PySem.F.entry_set_new ?_⟩))
  rw [Around.under_plainId PySem.F.plain_set_new _]
  unfold Builtin.«set.__new__» Builtin.Frozenset.newClass
  have hsub := sub_set_self
  obtain ⟨hp, g, d, tk, os⟩ := s
  dsimp only
  wp_walk
  refine wpAny_askSetting (wpAny_pure ?_)
  dsimp only
  simp only [newObj]
  refine wpAny_bind (wpAny_alloc (wpAny_pure ?_))
  exact wpAny_pure h
theorem call_set_str {x : Str} {t : Tok} {Q : Value → Shared → Prop} (hh : A.handled = none) (hb : x.cps.size + 1 < scanBound)
    (h : ∀ (h' : Heap) (tk : Nat) (o : Obj), h'.get? s.heap.objs.size = some o → StrSet prog w o (met x.cps.toList x.cps.size) → (∀ b o, s.heap.get? b = some o → h'.get? b = some o) → Q (.ref s.heap.objs.size) { s with heap := h', toks := tk }) :
    wpAny (model prog w) A (call (.type "set") [.str x t]) Q E s := by
  obtain ⟨c, tl, hmro⟩ := PySem.F.called_set.mro
  have hmade := PySem.F.called_set.made
  have hsub := PySem.F.called_set.sub
  refine wpAny_call (codeAny_of_tree ?_)
  show wpAny _ _ (callAny (.type "set") _) _ _ _
  refine wpAny_pure ⟨Code.quiet_builtin _ (by decide +kernel), codeAny_builtin PySem.F.entry_type_call ?_⟩
  rw [Around.under_plain (weight_type_call_type "set" [.str x t] []) rfl]
  have h1 := PySem.F.called_set.notType
  have h2 := PySem.F.called_set.canCreate
  have hct := PySem.F.typeCall_set_1 (.str x t)
  repeat (any_goals (first | assumption | wp_step))
  refine codeAny_mono (set_new_1 (.str x t) (E := E) (Q₁ := fun obj s₁ => obj = .ref s.heap.objs.size ∧ s₁ = { s with heap := s.heap.push (newSetObj w) }) ⟨rfl, rfl⟩) fun r s₁ hr => ?_
  cases r with
  | error e => exact hr
  | ok fl =>
    cases fl with
    | ret obj =>
      obtain ⟨rfl, rfl⟩ := hr
      have hS : (s.heap.push (newSetObj w)).get? s.heap.objs.size = some (newSetObj w) := Heap.get?_push_size _ rfl
      have hT : Shared.TypeIs { s with heap := s.heap.push (newSetObj w) } (.ref s.heap.objs.size) "set" := ⟨_, hS, rfl⟩
      have hli := PySem.F.called_set.init.lookup
      have hbi := PySem.F.called_set.init.bind (.ref s.heap.objs.size)
      repeat (any_goals (first | assumption | wp_step))
      refine codeAny_mono (codeAny_call_builtin (R := wants (fun r s₂ => r = .none ∧ ∃ h' tk o, s₂ = { s with heap := h', toks := tk } ∧ h'.get? s.heap.objs.size = some o ∧ StrSet prog w o (met x.cps.toList x.cps.size) ∧
          (∀ b o, s.heap.get? b = some o → h'.get? b = some o)) E) PySem.F.called_set.init.plain PySem.F.entry_set_init (check_set_init_1 hT ?_)) fun r₂ s₂ hr₂ => ?_
      · have hTs : Shared.TypeIs { s with heap := s.heap.push (newSetObj w) } (.str x t) "str" := rfl
        have hs1 := sub_str_set
        have hs2 := sub_str_frozenset
        have hne : (Value.type "str" == Value.type "dict") = false := by decide
        unfold Builtin.«set.__init__» noKeywords Builtin.Frozenset.updateFrom
        generalize hPI : pyIter = PI
        wp_walk
        subst hPI
        have hh3 : A.in1.in1.in1.handled = none := by simp [hh]
        refine wpAny_pyIter_str fun o St W hst => ?_
        refine wpAny_bind (wpAny_runValue ?_)
        have hsz : (s.heap.push (newSetObj w)).objs.size = s.heap.objs.size + 1 := by rw [Heap.size_push]
        have hSf : s.heap.objs.size ∉ [(s.heap.push (newSetObj w)).objs.size] := by
          rw [hsz]
          simp only [List.mem_singleton]
          exact Nat.ne_of_lt (Nat.lt_succ_self _)
        refine set_update_str (W _ hh3).toS s.heap.objs.size hSf hb x.cps.size 0 _ (newSetObj w) (by omega) (Nat.zero_le _) hst (Heap.get?_push_of_some _ hS) newSet_strSet fun s' o' hm ho' hs' => ?_
        obtain ⟨h', g', d', tk', os'⟩ := s'
        have eg : g' = s.gens := hm.gens
        have ed : d' = s.drawn := hm.drawn
        have eo : os' = s.os := hm.os
        subst eg
        subst ed
        subst eo
        show wpAny _ _ _ _ _ _
        refine wpAny_pure ?_
        show wpAny _ _ (ret Value.none) _ _ _
        refine wpAny_pure ⟨rfl, h', tk', o', rfl, ho', hs', fun b o hb => ?_⟩
        have hlt := Heap.lt_size hb
        refine hm.heap b o (fun hmem => ?_) (Heap.get?_push_of_some _ (Heap.get?_push_of_some _ hb))
        rcases List.mem_cons.mp hmem with e | hmem
        · exact absurd hlt (by rw [e]; exact Nat.lt_irrefl _)
        · rw [List.mem_singleton.mp hmem, hsz] at hlt
          exact absurd hlt (Nat.not_lt.mpr (Nat.le_succ _))
      · cases r₂ with
        | error e => exact hr₂
        | ok fl₂ =>
          cases fl₂ with
          | ret r =>
            obtain ⟨rfl, h', tk, o, rfl, ho, hs', hk'⟩ := hr₂
            repeat (any_goals (first | assumption | wp_step))
            exact h _ _ _ ho hs' hk'
          | _ => exact hr₂.elim
    | _ => exact hr.elim
end
end Mine
end
section
open PySem PySem.W PyProof.Rows
set_option Elab.async false
set_option maxRecDepth 100000
set_option maxHeartbeats 3200000
namespace Mine
theorem slot_sit_next : Slot "set_iterator" "__next__" "set_iterator.__next__" :=
  .of (owner := "set_iterator") (n := "__next__") (by rw [typeLookup_type, builtinLookup_eq_fast]; kernel_rfl) (by decide +kernel) (by decide +kernel) (by decide +kernel)
    (by first | exact .inl (by decide +kernel) | exact .inr (by decide +kernel)) (by rw [isSubtype_type]; kernel_rfl)
theorem entry_sit_next : entryFor table "set_iterator.__next__" = some Builtin.«set_iterator.__next__» := entryFor_of_tree (by kernel_rfl)
theorem owner_sit : Manifest.owners.lookup (String.ofList ['r', 'o', 't', 'a', 'r', 'e', 't', 'i', '_', 't', 'e', 's'].reverse) = some Manifest.sig_set_iterator := by kernel_rfl
theorem args_sit_next (a : Value) : argsOk "set_iterator.__next__" ⟨[a], []⟩ := by
  unfold argsOk; rw [signature?_of (id := "set_iterator.__next__") (n := ['_', '_', 't', 'x', 'e', 'n', '_', '_']) (o := ['r', 'o', 't', 'a', 'r', 'e', 't', 'i', '_', 't', 'e', 's']) (by kernel_rfl) owner_sit]; kernel_rfl
theorem slot_sit_iter : Slot "set_iterator" "__iter__" "set_iterator.__iter__" :=
  .of (owner := "set_iterator") (n := "__iter__") (by rw [typeLookup_type, builtinLookup_eq_fast]; kernel_rfl) (by decide +kernel) (by decide +kernel) (by decide +kernel)
    (by first | exact .inl (by decide +kernel) | exact .inr (by decide +kernel)) (by rw [isSubtype_type]; kernel_rfl)
theorem entry_sit_iter : entryFor table "set_iterator.__iter__" = some Builtin.«dict_keyiterator.__iter__» :=
  entryFor_alias (id' := "dict_keyiterator.__iter__") (by kernel_rfl) rfl (by decide +kernel) (by kernel_rfl)
theorem args_sit_iter (a : Value) : argsOk "set_iterator.__iter__" ⟨[a], []⟩ := by
  unfold argsOk; rw [signature?_of (id := "set_iterator.__iter__") (n := ['_', '_', 'r', 'e', 't', 'i', '_', '_']) (o := ['r', 'o', 't', 'a', 'r', 'e', 't', 'i', '_', 't', 'e', 's']) (by kernel_rfl) owner_sit]; kernel_rfl
theorem entry_set_iter : entryFor table "set.__iter__" = some Builtin.«frozenset.__iter__» :=
  entryFor_alias (id' := "frozenset.__iter__") (by kernel_rfl) rfl (by decide +kernel) (by kernel_rfl)
theorem set_has_len : typeLookup (.type "set") "__len__" = pure (some (.builtin "set.__len__")) := by rw [typeLookup_type, builtinLookup_eq_fast]; kernel_rfl
theorem erase_perm {α : Type} : ∀ (l : List α) (i : Nat) (h : i < l.length), (l[i] :: l.eraseIdx i).Perm l
  | [], i, h => absurd h (by simp)
  | a :: l, 0, _ => .refl _
  | a :: l, i + 1, h => by
    have h' : i < l.length := by simpa using h
    exact (List.Perm.swap a l[i] (l.eraseIdx i)).trans ((erase_perm l i h').cons a)
theorem pick_go {α : Type} (next : Nat → Nat) : ∀ (f k : Nat) (left : List α) (out : Array α), f = left.length → (pickOrder.go next f k left out).toList.Perm (out.toList ++ left)
  | 0, k, left, out, h => by
    have : left = [] := List.eq_nil_of_length_eq_zero h.symm
    subst this
    simp [pickOrder.go]
  | f + 1, k, left, out, h => by
    have hl : next k % left.length < left.length := Nat.mod_lt _ (by omega)
    unfold pickOrder.go
    rw [List.getElem?_eq_getElem hl]
    dsimp only
    refine (pick_go next f (k + 1) (left.eraseIdx (next k % left.length)) _ (by rw [List.length_eraseIdx_of_lt hl]; omega)).trans ?_
    rw [Array.toList_push, List.append_assoc]
    exact (erase_perm left _ hl).append_left _
theorem pick_perm {α : Type} (next : Nat → Nat) (xs : Array α) : (pickOrder next xs).toList.Perm xs.toList := by
  have := pick_go next xs.size 0 xs.toList #[] (by simp)
  rw [List.nil_append] at this
  exact this
section
variable {prog : Program} {w : World} {A : Around} {E : Value → Shared → Prop} {s : Shared}
theorem wp_choose1 {src : Source} {n : Nat} {Q : Nat → Shared → Prop} (hn : n ≠ 0) (h : ∀ i, i < n → Q i { s with drawn := s.drawn.bump src }) : wpAny (model prog w) A (choose src n) Q E s :=
  fun _ _ _ => ⟨hn, h _ (Nat.mod_lt _ (Nat.pos_of_ne_zero hn))⟩
theorem draw_order {α : Type} : ∀ (n : Nat) (xs : List α) (s : Shared) {Q : List α → Shared → Prop}, n = xs.length → (∀ ys d, ys.Perm xs → Q ys { s with drawn := d }) → wpAny (model prog w) A (drawOrder n xs) Q E s
  | 0, xs, s, Q, hn, h => by
    have : xs = [] := List.eq_nil_of_length_eq_zero hn.symm
    subst this
    exact wpAny_pure (h [] s.drawn .nil)
  | n + 1, [], s, Q, hn, h => by simp at hn
  | n + 1, x :: xs, s, Q, hn, h => by
    unfold drawOrder
    refine wpAny_bind (wp_choose1 (by simp) fun i hi => ?_)
    rw [List.getElem?_eq_getElem hi]
    dsimp only
    refine wpAny_bind (draw_order n _ _ (by rw [List.length_eraseIdx_of_lt hi]; omega) fun ys d hp => ?_)
    exact wpAny_pure (h _ d ((hp.cons _).trans (erase_perm (x :: xs) i hi)))
theorem next_text {a : Addr} {o : Obj} {es : Array (Int × Value)} {ep slot i : Nat} {t : SetTable} {Q : Option (Value × Nat) → Shared → Prop} (ho : s.heap.get? a = some o) (hd : o.data = .set es ep t) (hf : t.fits es.size = true) (hb : w.params.followText "set-order" = true)
    (h : Q (((pickOrder (w.params.setOrder a ep) es)[i]?).map fun e => (e.2, slot)) s) : wpAny (model prog w) A (setNext a slot i ep) Q E s := by
  unfold setNext
  refine wpAny_bind (wpAny_setState_of ho hd hf ?_)
  dsimp only
  unfold setsByText
  refine wpAny_bind (wpAny_bind (wpAny_askSetting (wpAny_pure ?_)))
  show wpAny _ _ (if w.params.followText "set-order" = true then _ else _) _ _ _
  rw [if_pos hb, if_neg (by simp)]
  refine wpAny_bind ?_
  unfold setWalk
  refine wpAny_bind (wpAny_setState_of ho hd hf ?_)
  dsimp only
  unfold setsByText
  refine wpAny_bind (wpAny_bind (wpAny_askSetting (wpAny_pure ?_)))
  show wpAny _ _ (if w.params.followText "set-order" = true then _ else _) _ _ _
  rw [if_pos hb]
  refine wpAny_bind (wpAny_askSetting (wpAny_pure ?_))
  exact wpAny_pure h
theorem next_one {a : Addr} {o : Obj} {es : Array (Int × Value)} {ep slot i : Nat} {t : SetTable} {Q : Option (Value × Nat) → Shared → Prop} (ho : s.heap.get? a = some o) (hd : o.data = .set es ep t) (hf : t.fits es.size = true) (hb : w.params.followText "set-order" = false) (h1 : es.size ≤ 1) (hled : t.led = true)
    (h : Q (match es[SetTable.below t.place slot]?, t.place[SetTable.below t.place slot]? with | some (_, x), some j => some (x, j + 1) | _, _ => none) s) : wpAny (model prog w) A (setNext a slot i ep) Q E s := by
  unfold setNext
  refine wpAny_bind (wpAny_setState_of ho hd hf ?_)
  dsimp only
  unfold setsByText
  refine wpAny_bind (wpAny_bind (wpAny_askSetting (wpAny_pure ?_)))
  show wpAny _ _ (if w.params.followText "set-order" = true then _ else _) _ _ _
  rw [if_neg (by rw [hb]; decide)]
  show wpAny _ _ (if (!t.plain && decide (es.size > 1)) = true then _ else _) _ _ _
  rw [if_neg (by simp; intro _; omega)]
  refine wpAny_bind ?_
  show wpAny _ _ (if (!t.led && !es.isEmpty) = true then unsupported _ else pure ()) _ _ _
  rw [if_neg (by rw [hled]; simp)]
  exact wpAny_pure (wpAny_pure h)
theorem next_drawn {a : Addr} {o : Obj} {es : Array (Int × Value)} {ep i : Nat} {t : SetTable} {e : Int × Value} {Q : Value → Shared → Prop} (ho : s.heap.get? a = some o) (hd : o.data = .set es ep t) (hf : t.fits es.size = true) (he : es[i]? = some e)
    (h : Q e.2 s) : wpAny (model prog w) A (setNextDrawn a i ep) Q E s := by
  unfold setNextDrawn
  refine wpAny_bind (wpAny_setState_of ho hd hf ?_)
  dsimp only
  rw [if_neg (by simp), he]
  exact wpAny_bind (wpAny_pure (wpAny_pure h))
end
end Mine
end
section
open PySem PySem.W PyProof.Rows
set_option Elab.async false
set_option maxRecDepth 100000
set_option maxHeartbeats 3200000
namespace Mine
def ItI (h : Heap) (I a : Addr) (slot i n ep : Nat) : Prop := ∃ o, h.get? I = some o ∧ o.cls = .type "set_iterator" ∧ o.data = .fields #[.int slot 0, .int i 0, .ref a, .int n 0, .int ep 0]
def ItT (h : Heap) (I a T : Addr) (i n ep : Nat) : Prop := ∃ o, h.get? I = some o ∧ o.cls = .type "set_iterator" ∧ o.data = .fields #[.ref T, .int i 0, .ref a, .int n 0, .int ep 0]
theorem ItI.typeIs {s : Shared} {I a : Addr} {slot i n ep : Nat} (h : ItI s.heap I a slot i n ep) : s.TypeIs (.ref I) "set_iterator" := let ⟨o, ho, hc, _⟩ := h; ⟨o, ho, hc⟩
theorem ItT.typeIs {s : Shared} {I a T : Addr} {i n ep : Nat} (h : ItT s.heap I a T i n ep) : s.TypeIs (.ref I) "set_iterator" := let ⟨o, ho, hc, _⟩ := h; ⟨o, ho, hc⟩
section
variable {prog : Program} {w : World} {A : Around} {E : Value → Shared → Prop} {s : Shared} {I a T : Addr} {o : Obj} {es : Array (Int × Value)} {ep slot i nx : Nat} {t : SetTable} {x : Value} {Q : Option Value → Shared → Prop}
theorem sit_item (hit : ItI s.heap I a slot i es.size ep) (ho : s.heap.get? a = some o) (hd : o.data = .set es ep t) (hf : t.fits es.size = true)
    (hnx : ∀ (A : Around) (E : Value → Shared → Prop) (Q : Option (Value × Nat) → Shared → Prop), Q (some (x, nx)) s → wpAny (model prog w) A (setNext a slot i ep) Q E s)
    (hQ : ∀ h', ItI h' I a nx (i + 1) es.size ep → Heap.SameBut I s.heap h' → Q (some x) { s with heap := h' }) : wpAny (model prog w) A (pyNext (.ref I)) Q E s := by
  obtain ⟨oi, hoi, hci, hdi⟩ := id hit
  unfold pyNext
  refine wpAny_bind (wpAny_attempt (wpAny_callSpecial?_slot (name := Str.ofString "__next__") hit.typeIs slot_sit_next (wpAny_call_entry slot_sit_next hit.typeIs entry_sit_next ?_ (args_sit_next _))))
  refine wpAny_bind (wpAny_pure ?_)
  refine wpAny_bind (wpAny_fieldsOf hoi hdi ?_)
  dsimp only
  refine wpAny_bind (wpAny_setEntries_of ho hd hf ?_)
  rw [if_neg (by simp)]
  refine wpAny_bind (hnx _ _ _ ?_)
  dsimp only
  refine wpAny_bind (wpAny_setField hoi hdi (by simp) ?_)
  have ho1 := Heap.get?_update_self (Obj.mapFields (·.setIfInBounds 0 (rawInt (nx : Int)))) hoi (Obj.isFreed_of_fields (Obj.data_mapFields hdi _))
  have hd1 := Obj.data_mapFields hdi (·.setIfInBounds 0 (rawInt (nx : Int)))
  refine wpAny_bind (wpAny_setField (s := { s with heap := s.heap.update I (Obj.mapFields (·.setIfInBounds 0 (rawInt (nx : Int)))) }) ho1 hd1 (by simp) ?_)
  have ho2 := Heap.get?_update_self (Obj.mapFields (·.setIfInBounds 1 (rawInt ((i : Int) + 1)))) ho1 (Obj.isFreed_of_fields (Obj.data_mapFields hd1 _))
  refine wpAny_pure ⟨_, rfl, wpAny_pure (hQ _ ⟨_, ho2, ?_, ?_⟩ ((Heap.SameBut.update ..).trans (Heap.SameBut.update ..)))⟩
  · rw [Obj.cls_mapFields, Obj.cls_mapFields]
    exact hci
  · rw [Obj.data_mapFields hd1]
    simp [rawInt]
theorem sit_end (hh : A.handled = none) (hit : ItI s.heap I a slot i es.size ep) (ho : s.heap.get? a = some o) (hd : o.data = .set es ep t) (hf : t.fits es.size = true)
    (hnx : ∀ (A : Around) (E : Value → Shared → Prop) (Q : Option (Value × Nat) → Shared → Prop), Q none s → wpAny (model prog w) A (setNext a slot i ep) Q E s)
    (hQ : ∀ h', Heap.ExtBut I s.heap h' → Q none { s with heap := h' }) : wpAny (model prog w) A (pyNext (.ref I)) Q E s := by
  obtain ⟨oi, hoi, hci, hdi⟩ := id hit
  unfold pyNext
  refine wpAny_bind (wpAny_attempt (wpAny_callSpecial?_slot (name := Str.ofString "__next__") hit.typeIs slot_sit_next (wpAny_call_entry slot_sit_next hit.typeIs entry_sit_next ?_ (args_sit_next _))))
  refine wpAny_bind (wpAny_pure ?_)
  refine wpAny_bind (wpAny_fieldsOf hoi hdi ?_)
  dsimp only
  refine wpAny_bind (wpAny_setEntries_of ho hd hf ?_)
  rw [if_neg (by simp)]
  refine wpAny_bind (hnx _ _ _ ?_)
  dsimp only
  refine wpAny_bind (wpAny_setField hoi hdi (by simp) ?_)
  show wpAny _ _ (newExc (.type "StopIteration") [] >>= _) _ _ _
  refine wpAny_bind ?_
  simp only [newExc, newTuple]
  refine wpAny_bind (wpAny_newObj_type ?_ (by size_fits))
  refine wpAny_bind (m := firstArgMember _ _) (wpAny_of_eq (a := Value.none) (by first | rfl | (simp only [firstArgMember]; rfl)) ?_)
  refine wpAny_newObj_type ?_ (by size_fits)
  simp only [raiseNew]
  refine wpAny_bind (wpAny_handled ?_)
  rw [show A.in1.handled = none from hh]
  refine wpAny_bind (wpAny_pure (wpAny_throw ?_))
  refine wpAny_bind (wpAny_isInstance (T := "StopIteration") (b := true) ⟨_, Heap.get?_push_size _ rfl, rfl⟩ isSubtype_stop ?_)
  exact wpAny_pure (hQ _ (((Heap.SameBut.update ..).extBut.push _).push _))
theorem sit_itemT {places : Array Value} {nT : Nat} {oT : Obj} {k : Nat} {e : Int × Value} (hit : ItT s.heap I a T i es.size ep) (ho : s.heap.get? a = some o) (hd : o.data = .set es ep t) (hf : t.fits es.size = true)
    (hoT : s.heap.get? T = some oT) (hdT : oT.data = .seq places nT) (hp : places[i]? = some (.int k 0)) (he : es[k]? = some e)
    (hQ : ∀ h', ItT h' I a T (i + 1) es.size ep → Heap.SameBut I s.heap h' → Q (some e.2) { s with heap := h' }) : wpAny (model prog w) A (pyNext (.ref I)) Q E s := by
  obtain ⟨oi, hoi, hci, hdi⟩ := id hit
  unfold pyNext
  refine wpAny_bind (wpAny_attempt (wpAny_callSpecial?_slot (name := Str.ofString "__next__") hit.typeIs slot_sit_next (wpAny_call_entry slot_sit_next hit.typeIs entry_sit_next ?_ (args_sit_next _))))
  refine wpAny_bind (wpAny_pure ?_)
  refine wpAny_bind (wpAny_fieldsOf hoi hdi ?_)
  dsimp only
  refine wpAny_bind (wpAny_setEntries_of ho hd hf ?_)
  rw [if_neg (by simp)]
  refine wpAny_bind (wpAny_seqItems hoT hdT ?_)
  dsimp only
  simp only [Int.toNat_natCast, hp]
  refine wpAny_bind (next_drawn ho hd hf he ?_)
  refine wpAny_bind (wpAny_setField hoi hdi (by simp) ?_)
  have ho1 := Heap.get?_update_self (Obj.mapFields (·.setIfInBounds 1 (rawInt ((i : Int) + 1)))) hoi (Obj.isFreed_of_fields (Obj.data_mapFields hdi _))
  refine wpAny_pure ⟨_, rfl, wpAny_pure (hQ _ ⟨_, ho1, ?_, ?_⟩ (Heap.SameBut.update ..))⟩
  · rw [Obj.cls_mapFields]
    exact hci
  · rw [Obj.data_mapFields hdi]
    simp [rawInt]
theorem sit_endT {places : Array Value} {nT : Nat} {oT : Obj} (hh : A.handled = none) (hit : ItT s.heap I a T i es.size ep) (ho : s.heap.get? a = some o) (hd : o.data = .set es ep t) (hf : t.fits es.size = true)
    (hoT : s.heap.get? T = some oT) (hdT : oT.data = .seq places nT) (hp : places[i]? = none)
    (hQ : ∀ h', Heap.ExtBut I s.heap h' → Q none { s with heap := h' }) : wpAny (model prog w) A (pyNext (.ref I)) Q E s := by
  obtain ⟨oi, hoi, hci, hdi⟩ := id hit
  unfold pyNext
  refine wpAny_bind (wpAny_attempt (wpAny_callSpecial?_slot (name := Str.ofString "__next__") hit.typeIs slot_sit_next (wpAny_call_entry slot_sit_next hit.typeIs entry_sit_next ?_ (args_sit_next _))))
  refine wpAny_bind (wpAny_pure ?_)
  refine wpAny_bind (wpAny_fieldsOf hoi hdi ?_)
  dsimp only
  refine wpAny_bind (wpAny_setEntries_of ho hd hf ?_)
  rw [if_neg (by simp)]
  refine wpAny_bind (wpAny_seqItems hoT hdT ?_)
  dsimp only
  simp only [Int.toNat_natCast, hp]
  refine wpAny_bind (wpAny_setField hoi hdi (by simp) ?_)
  have ho1 := Heap.get?_update_self (Obj.mapFields (·.setIfInBounds 0 (rawInt 0))) hoi (Obj.isFreed_of_fields (Obj.data_mapFields hdi _))
  have hd1 := Obj.data_mapFields hdi (·.setIfInBounds 0 (rawInt 0))
  refine wpAny_bind (wpAny_setField (s := { s with heap := s.heap.update I (Obj.mapFields (·.setIfInBounds 0 (rawInt 0))) }) ho1 hd1 (by simp) ?_)
  show wpAny _ _ (newExc (.type "StopIteration") [] >>= _) _ _ _
  refine wpAny_bind ?_
  simp only [newExc, newTuple]
  refine wpAny_bind (wpAny_newObj_type ?_ (by size_fits))
  refine wpAny_bind (m := firstArgMember _ _) (wpAny_of_eq (a := Value.none) (by first | rfl | (simp only [firstArgMember]; rfl)) ?_)
  refine wpAny_newObj_type ?_ (by size_fits)
  simp only [raiseNew]
  refine wpAny_bind (wpAny_handled ?_)
  rw [show A.in1.handled = none from hh]
  refine wpAny_bind (wpAny_pure (wpAny_throw ?_))
  refine wpAny_bind (wpAny_isInstance (T := "StopIteration") (b := true) ⟨_, Heap.get?_push_size _ rfl, rfl⟩ isSubtype_stop ?_)
  exact wpAny_pure (hQ _ ((((Heap.SameBut.update ..).trans (Heap.SameBut.update ..)).extBut.push _).push _))
theorem sit_self (hT : s.TypeIs (.ref I) "set_iterator") {Q : Value → Shared → Prop} (h : Q (.ref I) s) : wpAny (model prog w) A (pyIter (.ref I)) Q E s := by
  refine wpAny_pyIter_slot hT slot_sit_iter (wpAny_call_entry slot_sit_iter hT entry_sit_iter ?_ (args_sit_iter _))
  show wpAny _ _ (ret (.ref I)) _ _ s
  exact wpAny_pure ⟨_, rfl, "set_iterator", _, hT, slot_sit_next.lookup, h⟩
end
end Mine
end
section
open PySem PySem.W PyProof.Rows
set_option Elab.async false
set_option maxRecDepth 100000
set_option maxHeartbeats 3200000
namespace Mine
theorem below_one0 (j : Nat) : SetTable.below #[j] 0 = 0 := by
  simp [SetTable.below, SetTable.below.go]
theorem below_one1 (j : Nat) : SetTable.below #[j] (j + 1) = 1 := by
  simp [SetTable.below, SetTable.below.go]
theorem ItI.frame {h h' : Heap} {I a : Addr} {slot i n ep : Nat} (x : ItI h I a slot i n ep) (k : ∀ o, h.get? I = some o → h'.get? I = some o) : ItI h' I a slot i n ep := let ⟨o, ho, r⟩ := x; ⟨o, k o ho, r⟩
theorem ItT.frame {h h' : Heap} {I a T : Addr} {i n ep : Nat} (x : ItT h I a T i n ep) (k : ∀ o, h.get? I = some o → h'.get? I = some o) : ItT h' I a T i n ep := let ⟨o, ho, r⟩ := x; ⟨o, k o ho, r⟩
section
variable {prog : Program} {w : World} {I a T : Addr} {o oT : Obj} {es : Array (Int × Value)} {ep : Nat} {t : SetTable}
theorem walks_text {A : Around} (hh : A.handled = none) (hne : a ≠ I) (hd : o.data = .set es ep t) (hf : t.fits es.size = true) (hb : w.params.followText "set-order" = true) :
    Walks prog w A I [I, a] [I] es.size (fun i v => ((pickOrder (w.params.setOrder a ep) es).toList.map (·.2))[i]? = some v) (fun i h => ItI h I a 0 i es.size ep ∧ h.get? a = some o) where
  sub := fun b hb => by simp at hb; simp [hb]
  frame := fun _ _ _ st hk => ⟨st.1.frame fun o e => hk I (by simp) o e, hk a (by simp) o st.2⟩
  item := fun i s Q E hi st hQ => by
    have hl : (pickOrder (w.params.setOrder a ep) es).size = es.size := by rw [← Array.length_toList, (pick_perm _ es).length_eq, Array.length_toList]
    have hg : (pickOrder (w.params.setOrder a ep) es)[i]? = some ((pickOrder (w.params.setOrder a ep) es)[i]'(by omega)) := Array.getElem?_eq_getElem (by omega)
    refine sit_item (x := ((pickOrder (w.params.setOrder a ep) es)[i]'(by omega)).2) (nx := 0) st.1 st.2 hd hf (fun A E Q hq => next_text st.2 hd hf hb (by rw [hg]; exact hq)) fun h' hit' hs' => ?_
    exact hQ _ h' s.toks (by simp [hl, hi]) ⟨hit', hs'.extBut a o hne st.2⟩ fun b o hb e => hs'.extBut b o (fun h => hb (by simp [h])) e
  done := fun s Q E st hQ => by
    have hl : (pickOrder (w.params.setOrder a ep) es).size = es.size := by rw [← Array.length_toList, (pick_perm _ es).length_eq, Array.length_toList]
    refine sit_end hh st.1 st.2 hd hf (fun A E Q hq => next_text st.2 hd hf hb (by rw [Array.getElem?_eq_none (by omega)]; exact hq)) fun h' he' => hQ h' s.toks fun b o hb e => he' b o (fun h => hb (by simp [h])) e
  self := fun _ _ _ _ st hQ => sit_self st.1.typeIs hQ
theorem walks_one {A : Around} (hh : A.handled = none) (hne : a ≠ I) (hd : o.data = .set es ep t) (hf : t.fits es.size = true) (hb : w.params.followText "set-order" = false) (h1 : es.size ≤ 1) (hled : t.led = true) :
    Walks prog w A I [I, a] [I] es.size (fun i v => (es.toList.map (·.2))[i]? = some v) (fun i h => (∃ slot, ItI h I a slot i es.size ep ∧ (i = 0 → slot = 0) ∧ ∀ j, 0 < i → t.place[0]? = some j → slot = j + 1) ∧ h.get? a = some o) where
  sub := fun b hb => by simp at hb; simp [hb]
  frame := fun _ _ _ st hk => by
    obtain ⟨⟨slot, x, y⟩, z⟩ := st
    exact ⟨⟨slot, x.frame fun o e => hk I (by simp) o e, y⟩, hk a (by simp) o z⟩
  item := fun i s Q E hi st hQ => by
    obtain ⟨⟨slot, x, y1, y2⟩, z⟩ := st
    have i0 : i = 0 := by omega
    subst i0
    have := y1 rfl
    subst this
    have hsz : t.place.size = es.size := by
      simp only [SetTable.fits, Bool.and_eq_true, beq_iff_eq] at hf
      exact hf.1
    obtain ⟨j, hj⟩ : ∃ j, t.place = #[j] := Array.size_eq_one_iff.mp (by omega)
    obtain ⟨e, he⟩ : ∃ e, es = #[e] := Array.size_eq_one_iff.mp (by omega)
    refine sit_item (x := e.2) (nx := j + 1) x z hd hf (fun A E Q hq => next_one z hd hf hb h1 hled (by rw [hj, below_one0, he]; exact hq)) fun h' hit' hs' => ?_
    refine hQ _ h' s.toks (by rw [he]; rfl) ⟨⟨j + 1, hit', fun h => absurd h (by decide), fun k _ hk => ?_⟩, hs'.extBut a o hne z⟩ fun b o hb e => hs'.extBut b o (fun h => hb (by simp [h])) e
    rw [hj] at hk
    simp at hk
    rw [hk]
  done := fun s Q E st hQ => by
    obtain ⟨⟨slot, x, y1, y2⟩, z⟩ := st
    have hsz : t.place.size = es.size := by
      simp only [SetTable.fits, Bool.and_eq_true, beq_iff_eq] at hf
      exact hf.1
    refine sit_end hh x z hd hf (fun A E Q hq => next_one z hd hf hb h1 hled ?_) fun h' he' => hQ h' s.toks fun b o hb e => he' b o (fun h => hb (by simp [h])) e
    rcases Nat.eq_zero_or_pos es.size with h0 | h0
    · have e1 : es = #[] := Array.eq_empty_of_size_eq_zero h0
      subst e1
      exact hq
    · obtain ⟨j, hj⟩ : ∃ j, t.place = #[j] := Array.size_eq_one_iff.mp (by omega)
      obtain ⟨e, he⟩ : ∃ e, es = #[e] := Array.size_eq_one_iff.mp (by omega)
      have := y2 j h0 (by rw [hj]; rfl)
      rw [this, hj, below_one1, he]
      exact hq
  self := fun _ _ _ _ st hQ => by
    obtain ⟨⟨slot, x, _⟩, _⟩ := st
    exact sit_self x.typeIs hQ
theorem walks_drawn {A : Around} {ys : List Nat} {nT : Nat} (hh : A.handled = none) (hne : a ≠ I) (hneT : T ≠ I) (hd : o.data = .set es ep t) (hf : t.fits es.size = true) (hdT : oT.data = .seq (ys.map fun (k : Nat) => rawInt (k : Int)).toArray nT) (hp : ys.Perm (List.range es.size)) :
    Walks prog w A I [I, a, T] [I] es.size (fun i v => (ys.map fun k => (es.getD k (0, .none)).2)[i]? = some v) (fun i h => ItT h I a T i es.size ep ∧ h.get? a = some o ∧ h.get? T = some oT) where
  sub := fun b hb => by simp at hb; simp [hb]
  frame := fun _ _ _ st hk => ⟨st.1.frame fun o e => hk I (by simp) o e, hk a (by simp) o st.2.1, hk T (by simp) oT st.2.2⟩
  item := fun i s Q E hi st hQ => by
    have hl : ys.length = es.size := by rw [hp.length_eq, List.length_range]
    have hk : ys[i]'(by omega) < es.size := List.mem_range.mp (hp.mem_iff.mp (List.getElem_mem _))
    refine sit_itemT (k := ys[i]'(by omega)) (e := es[ys[i]'(by omega)]) st.1 st.2.1 hd hf st.2.2 hdT (by simp [hl, hi, rawInt]) (Array.getElem?_eq_getElem hk) fun h' hit' hs' => ?_
    exact hQ _ h' s.toks (by simp [hl, hi, hk, Array.getD]) ⟨hit', hs'.extBut a o hne st.2.1, hs'.extBut T oT hneT st.2.2⟩ fun b o hb e => hs'.extBut b o (fun h => hb (by simp [h])) e
  done := fun s Q E st hQ => by
    have hl : ys.length = es.size := by rw [hp.length_eq, List.length_range]
    exact sit_endT hh st.1 st.2.1 hd hf st.2.2 hdT (by simp [hl]) fun h' he' => hQ h' s.toks fun b o hb e => he' b o (fun h => hb (by simp [h])) e
  self := fun _ _ _ _ st hQ => sit_self st.1.typeIs hQ
end
theorem perm_places {α : Type} (es : Array α) (d : α) {ys : List Nat} (hp : ys.Perm (List.range es.size)) : (ys.map fun k => es.getD k d).Perm es.toList := by
  refine (hp.map _).trans ?_
  have : (List.range es.size).map (fun k => es.getD k d) = es.toList := by
    apply List.ext_getElem
    · simp
    · intro i h1 h2
      simp at h1
      simp [Array.getD, h1]
  rw [this]
section
variable {prog : Program} {w : World} {A : Around} {E : Value → Shared → Prop} {s : Shared} {a : Addr} {o : Obj} {ss : List Str}
theorem pyIter_set {Q : Value → Shared → Prop} (ho : s.heap.get? a = some o) (hs : StrSet prog w o ss) (hss : ss.length ≤ 1000)
    (hQ : ∀ (h' : Heap) (d' : _) (I : Addr) (fp : List Addr) (n : Nat) (vs : List Value) (St : Nat → Heap → Prop), n = vs.length → (∃ ks, StrsAre vs ks ∧ ks.Perm ss) → (∀ A' : Around, A'.handled = none → Walks prog w A' I fp [I] n (fun i v => vs[i]? = some v) St) → St 0 h' →
      (∀ b o, s.heap.get? b = some o → h'.get? b = some o) → s.heap.objs.size ≤ I → (∀ b ∈ fp, b = a ∨ s.heap.objs.size ≤ b) → Q (.ref I) { s with heap := h', drawn := d' }) :
    wpAny (model prog w) A (pyIter (.ref a)) Q E s := by
  obtain ⟨hex, es, ep, t, hd, hel, ⟨ks, k1, k2⟩, hf, hled, hpl⟩ := id hs
  have hT : s.TypeIs (.ref a) "set" := ⟨o, ho, hex.1⟩
  have hlt : a < s.heap.objs.size := Heap.lt_size ho
  have hsz : es.size ≤ sizeLine := by rw [hs.size hd, sizeLine_eq]; omega
  refine wpAny_pyIter_slot hT PySem.F.slot_set_iter (wpAny_call_entry PySem.F.slot_set_iter hT entry_set_iter ?_ (PySem.F.args_set_iter_1 _))
  unfold Builtin.«frozenset.__iter__»
  refine wpAny_bind (wpAny_pure ?_)
  refine wpAny_bind ?_
  unfold Builtin.Frozenset.sizeOf
  refine wpAny_bind (wpAny_setEntries_of ho hd hf (wpAny_pure ?_))
  refine wpAny_bind ?_
  unfold setDrawn
  refine wpAny_bind (wpAny_setState_of ho hd hf ?_)
  dsimp only
  unfold setsByText
  refine wpAny_bind (wpAny_bind (wpAny_askSetting (wpAny_pure ?_)))
  show wpAny _ _ (pure (!w.params.followText "set-order" && (!t.plain && decide (es.size > 1)))) _ _ _
  refine wpAny_pure ?_
  cases hb : w.params.followText "set-order" with
  | true =>
    rw [if_neg (by simp)]
    refine wpAny_bind (wpAny_pure ?_)
    refine wpAny_bind (wpAny_setEpoch_of ho hd hf ?_)
    refine wpAny_bind (wpAny_newObj_type (wpAny_pure ⟨_, rfl, "set_iterator", _, ⟨_, Heap.get?_push_size _ rfl, rfl⟩, slot_sit_next.lookup, ?_⟩))
    refine hQ _ s.drawn s.heap.objs.size [s.heap.objs.size, a] es.size _ _ ?_ ?_ (fun A' hA => walks_text hA (Nat.ne_of_lt hlt) hd hf hb) ⟨⟨_, Heap.get?_push_size _ rfl, rfl, rfl⟩, Heap.get?_push_of_some _ ho⟩ (fun b o e => Heap.get?_push_of_some _ e) (Nat.le_refl _) ?_
    · rw [List.length_map, (pick_perm _ es).length_eq, Array.length_toList]
    · obtain ⟨ks', q1, q2⟩ := strsPerm k1 ((pick_perm (w.params.setOrder a ep) es).map (·.2))
      exact ⟨ks', q1, q2.trans k2⟩
    · intro b hb
      rcases List.mem_cons.mp hb with rfl | hb
      · exact .inr (Nat.le_refl _)
      · exact .inl (List.mem_singleton.mp hb)
  | false =>
    by_cases h1 : es.size ≤ 1
    · rw [if_neg (by simp; intro _; omega)]
      refine wpAny_bind (wpAny_pure ?_)
      refine wpAny_bind (wpAny_setEpoch_of ho hd hf ?_)
      refine wpAny_bind (wpAny_newObj_type (wpAny_pure ⟨_, rfl, "set_iterator", _, ⟨_, Heap.get?_push_size _ rfl, rfl⟩, slot_sit_next.lookup, ?_⟩))
      refine hQ _ s.drawn s.heap.objs.size [s.heap.objs.size, a] es.size _ _ ?_ ⟨ks, k1, k2⟩ (fun A' hA => walks_one hA (Nat.ne_of_lt hlt) hd hf hb h1 (by rw [hled, hb]; rfl)) ⟨⟨0, ⟨_, Heap.get?_push_size _ rfl, rfl, rfl⟩, fun _ => rfl, fun j h => absurd h (by decide)⟩, Heap.get?_push_of_some _ ho⟩ (fun b o e => Heap.get?_push_of_some _ e) (Nat.le_refl _) ?_
      · rw [List.length_map, Array.length_toList]
      · intro b hb
        rcases List.mem_cons.mp hb with rfl | hb
        · exact .inr (Nat.le_refl _)
        · exact .inl (List.mem_singleton.mp hb)
    · rw [if_pos (show (!false && (!t.plain && decide (es.size > 1))) = true by rw [hpl (by omega)]; simpa using h1)]
      refine wpAny_bind ?_
      refine draw_order _ _ _ List.length_range.symm fun ys d hp => ?_
      have hl : ys.length = es.size := by rw [hp.length_eq, List.length_range]
      refine wpAny_bind (wpAny_newTuple ?_ (by rw [List.length_map, hl]; exact hsz))
      refine wpAny_bind (wpAny_setEpoch_of (Heap.get?_push_of_some _ ho) hd hf ?_)
      refine wpAny_bind (wpAny_newObj_type (wpAny_pure ⟨_, rfl, "set_iterator", _, ⟨_, Heap.get?_push_size _ rfl, rfl⟩, slot_sit_next.lookup, ?_⟩))
      have hT1 : ((s.heap.push { cls := .type "tuple", data := .seq (ys.map fun (i : Nat) => rawInt (i : Int)).toArray }).push { cls := .type "set_iterator", data := .fields #[.ref s.heap.objs.size, rawInt 0, .ref a, rawInt (es.size : Int), rawInt (ep : Int)] }).get? s.heap.objs.size = some { cls := .type "tuple", data := .seq (ys.map fun (i : Nat) => rawInt (i : Int)).toArray } := Heap.get?_push_of_some _ (Heap.get?_push_size _ rfl)
      have hz1 : (s.heap.push { cls := .type "tuple", data := .seq (ys.map fun (i : Nat) => rawInt (i : Int)).toArray }).objs.size = s.heap.objs.size + 1 := by rw [Heap.size_push]
      refine hQ _ d _ [(s.heap.push { cls := .type "tuple", data := .seq (ys.map fun (i : Nat) => rawInt (i : Int)).toArray }).objs.size, a, s.heap.objs.size] es.size _ _ ?_ ?_ (fun A' hA => walks_drawn (ys := ys) hA (by rw [hz1]; exact Nat.ne_of_lt (Nat.lt_succ_of_lt hlt)) (by rw [hz1]; exact Nat.ne_of_lt (Nat.lt_succ_self _)) hd hf rfl hp) ⟨⟨_, Heap.get?_push_size _ rfl, rfl, rfl⟩, Heap.get?_push_of_some _ (Heap.get?_push_of_some _ ho), hT1⟩ (fun b o e => Heap.get?_push_of_some _ (Heap.get?_push_of_some _ e)) (by rw [hz1]; exact Nat.le_succ _) ?_
      · rw [List.length_map, hl]
      · have p1 := (perm_places es (0, Value.none) hp).map (·.2)
        rw [List.map_map] at p1
        obtain ⟨ks', q1, q2⟩ := strsPerm k1 p1
        exact ⟨ks', q1, q2.trans k2⟩
      · intro b hb
        simp only [List.mem_cons, List.not_mem_nil, or_false] at hb
        rcases hb with rfl | rfl | rfl
        · exact .inr (by rw [hz1]; exact Nat.le_succ _)
        · exact .inl rfl
        · exact .inr (Nat.le_refl _)
end
end Mine
end
section
open PySem PySem.W PyProof.Rows
set_option Elab.async false
set_option maxRecDepth 100000
set_option maxHeartbeats 3200000
namespace Mine
section
variable {prog : Program} {w : World} {A : Around} {E : Value → Shared → Prop} {s : Shared} {a : Addr} {o : Obj} {ss : List Str}
theorem hint_set {r : Addr} {Q : Bool → Shared → Prop} (hT : s.TypeIs (.ref r) "set") (h : Q false s) : wpAny (model prog w) A (Builtin.List.listLengthHint (.ref r)) Q E s := by
  unfold Builtin.List.listLengthHint
  refine wpAny_bind (wpAny_specialOf hT set_has_len ?_)
  generalize hid : ("set.__len__" : String) = id0
  wp_delta
  rw [show splitId id0 = some ("set", "__len__") from by subst hid; decide +kernel]
  subst hid
  refine wpAny_bind (wpAny_isInstance (T := "set") (b := true) hT (by rw [isSubtype_type]; kernel_rfl) ?_)
  refine wpAny_ite_split (fun hab => absurd hab (by decide)) (fun _ => ?_)
  refine wpAny_ite_split (fun _ => ?_) (fun hab => absurd (by decide +kernel) hab)
  refine wpAny_bind (wpAny_typeOf hT ?_)
  exact wpAny_pure h
theorem itemsOf_list {vs : List Value} {acc : Array Value} {n : Nat} (hn : n = vs.length) (h : ItemsOf (fun i v => vs[i]? = some v) acc n) : acc.toList = vs := by
  apply List.ext_getElem
  · rw [Array.length_toList, h.1, hn]
  · intro i h1 h2
    have h1' : i < acc.size := by simpa using h1
    have : vs[i]? = some acc[i] := h.2 i acc[i] (Array.getElem?_eq_getElem h1')
    rw [List.getElem?_eq_getElem h2] at this
    simpa using (Option.some.inj this).symm
theorem set_extend {R : Result → Shared → Prop} (ho : s.heap.get? a = some o) (hs : StrSet prog w o ss) (hss : ss.length ≤ 1000) (hh : A.handled = none) (S : Addr) (hSa : S ≠ a) (res : Value) (hS : s.heap.get? S = some { cls := .type "list", data := .seq #[] 0 })
    (hR : ∀ h' d' tk vs c', (∀ b o, b ≠ S → s.heap.get? b = some o → h'.get? b = some o) → h'.get? S = some { cls := .type "list", dict := none, data := .seq (List.toArray vs) c', slots := #[] } → (∃ ks, StrsAre vs ks ∧ ks.Perm ss) → R (.ok (.ret res)) { s with heap := h', drawn := d', toks := tk }) :
    wpAny (model prog w) A.in1 (Builtin.List.listExtendWith (.ref S) (.ref a) res)
      (fun fin s' => match fin with | .done f => R (.ok f) s' | .again c' => c'.quiet = true ∧ codeAny (model prog w) A c' R s') (fun e s' => R (.error e) s') s := by
  have hT : s.TypeIs (.ref a) "set" := ⟨o, ho, hs.1.1⟩
  unfold Builtin.List.listExtendWith
  refine wpAny_bind (wpAny_typeOf (T := "set") hT ?_)
  have h1 : Builtin.List.listSameRef (.ref S) (.ref a) = false := by simp [Builtin.List.listSameRef, hSa]
  simp only [h1, show (Value.type "set" == Value.type "list") = false by decide, show (Value.type "set" == Value.type "tuple") = false by decide, Bool.or_false, Bool.false_eq_true, if_false]
  refine wpAny_bind (pyIter_set ho hs hss fun h1 d1 I fp n vs St hn hks W st hk hI hfp => ?_)
  have hSlt : S < s.heap.objs.size := Heap.lt_size hS
  have hSf : S ∉ fp := fun hm => by
    rcases hfp S hm with e | e
    · exact hSa e
    · exact absurd hSlt (Nat.not_lt.mpr e)
  have hSI : S ≠ I := Nat.ne_of_lt (Nat.lt_of_lt_of_le hSlt hI)
  have hnl : n ≤ sizeLine := by
    obtain ⟨ks, q1, q2⟩ := hks
    rw [hn, q1.length, q2.length_eq, sizeLine_eq]
    omega
  have key : ∀ (h : Heap) (c₁ tk : Nat), St 0 h → (∀ b o, b ≠ S → s.heap.get? b = some o → h.get? b = some o) →
      h.get? S = some { cls := .type "list", data := .seq #[] c₁ } → codeAny (model prog w) A (.builtin "list.extend.loop" ⟨[.ref S, .ref I, res], []⟩) R { s with heap := h, drawn := d1, toks := tk } := by
    intro h c₁ tk hst hk hS₁
    refine codeAny_extend_loopS (W A.in1 hh).toS hnl S hSf res n 0 _ #[] c₁ rfl (Nat.zero_le _) hst hS₁ (ItemsOf.nil _) fun s' acc' c' hm hS' hacc => ?_
    obtain ⟨h', g', d', tk', os'⟩ := s'
    have eg : g' = s.gens := hm.gens
    have ed : d' = d1 := hm.drawn
    have eo : os' = s.os := hm.os
    subst eg
    subst ed
    subst eo
    have hl := itemsOf_list hn hacc
    refine hR h' _ tk' vs c' (fun b o hb e => hm.heap b o (fun hmem => ?_) (hk b o hb e)) (by rw [← hl]; simpa using hS') hks
    rcases List.mem_cons.mp hmem with e' | hmem
    · exact hb e'
    · exact absurd (Heap.lt_size e) (by rw [List.mem_singleton.mp hmem]; exact Nat.not_lt.mpr hI)
  have hS₁ := hk _ _ hS
  refine wpAny_bind (wpAny_holding (hint_set ⟨o, hk _ _ ho, hs.1.1⟩ ?_))
  refine wpAny_ite_split (fun _ => ?_) (fun _ => wpAny_pure ⟨plainId_quiet PySem.F.plain_extend_loop _, key _ 0 _ st (fun b o _ e => hk b o e) hS₁⟩)
  refine wpAny_bind (wpAny_rule ?_)
  refine wpAny_bind ?_
  show wpAny _ _ (updateSeq S (·.push .none) >>= fun _ => updateSeq S (·.pop)) _ _ _
  refine wpAny_bind (wpAny_updateSeq hS₁ rfl ?_)
  have hS₂ := Heap.get?_update_self (Obj.mapSeq (·.push Value.none)) hS₁ rfl
  refine wpAny_updateSeq (hz := by seq_fits) hS₂ rfl ?_
  have hS₃ := Heap.get?_update_self (Obj.mapSeq (·.pop)) hS₂ rfl
  refine wpAny_pure ⟨plainId_quiet PySem.F.plain_extend_loop _, key _ _ _ ?_ (fun b o hb e => ?_) hS₃⟩
  · refine (W A.in1 hh).frame 0 _ _ st fun b hb o e => ?_
    have hbS : b ≠ S := fun h => hSf (h ▸ hb)
    exact (Heap.get?_update_other _ _ (Ne.symm hbS)).trans ((Heap.get?_update_other _ _ (Ne.symm hbS)).trans e)
  · exact (Heap.get?_update_other _ _ (Ne.symm hb)).trans ((Heap.get?_update_other _ _ (Ne.symm hb)).trans (hk _ _ e))
theorem set_collect {R : List Value → Shared → Prop} (ho : s.heap.get? a = some o) (hs : StrSet prog w o ss) (hss : ss.length ≤ 1000) (hh : A.handled = none)
    (h : ∀ (h' : Heap) d' (tk : Nat) (vs : List Value), (∀ b o, s.heap.get? b = some o → h'.get? b = some o) → (∃ ks, StrsAre vs ks ∧ ks.Perm ss) → R vs { s with heap := h', drawn := d', toks := tk }) :
    wpAny (model prog w) A (collect (.ref a)) R E s := by
  have hlt : a < s.heap.objs.size := Heap.lt_size ho
  unfold collect
  refine wpAny_bind (wpAny_runValue (codeAny_builtin entry_proto_collect' ?_))
  rw [Around.under_plainId PySem.F.plain_proto_collect _]
  show wpAny _ A.in1 (newList [] >>= fun l => again (.builtin "list.__iadd__" ⟨[l, .ref a], []⟩)) _ _ s
  refine wpAny_bind (wpAny_newObj_type ?_)
  refine wpAny_pure ⟨plainId_quiet PySem.F.plain_list_iadd _, codeAny_builtin entry_list_iadd' ?_⟩
  rw [Around.under_plainId PySem.F.plain_list_iadd _]
  have hS₁ : (s.heap.push { cls := .type "list", data := .seq ([] : List Value).toArray }).get? s.heap.objs.size = some { cls := .type "list", data := .seq #[] } := Heap.get?_push_size _ rfl
  show wpAny _ A.in1 (Builtin.List.listExtendWith (.ref s.heap.objs.size) (.ref a) (.ref s.heap.objs.size)) _ _ _
  have key := set_extend (A := A) (s := { s with heap := s.heap.push { cls := .type "list", data := .seq ([] : List Value).toArray } })
    (R := fun (q : Result) (s' : Shared) => ∃ (h' : Heap) (d' : _) (tk : Nat) (vs : List Value) (c' : Nat), q = .ok (.ret (.ref s.heap.objs.size)) ∧ s' = { s with heap := h', drawn := d', toks := tk } ∧
      (∀ b o, s.heap.get? b = some o → h'.get? b = some o) ∧ h'.get? s.heap.objs.size = some { cls := .type "list", dict := none, data := .seq (List.toArray vs) c', slots := #[] } ∧ ∃ ks, StrsAre vs ks ∧ ks.Perm ss)
    (Heap.get?_push_of_some _ ho) hs hss hh s.heap.objs.size (Nat.ne_of_gt hlt) (.ref s.heap.objs.size) hS₁
    (fun h' d' tk vs c' hk hS' hks => ⟨h', d', tk, vs, c', rfl, rfl, fun b o e => hk b o (Nat.ne_of_lt (Heap.lt_size e)) (Heap.get?_push_of_some _ e), hS', hks⟩)
  refine wpAny_mono key (fun fin s' x => ?_) fun e s' x => ?_
  · cases fin with
    | done f =>
      obtain ⟨h', d', tk, vs, c', e, rfl, hk, hS', hks⟩ := x
      cases e
      show wpAny _ A (load s.heap.objs.size >>= _) _ _ _
      refine wpAny_bind (wpAny_load hS' ?_)
      exact wpAny_pure (h h' d' tk vs hk hks)
    | again c₁ =>
      refine ⟨x.1, codeAny_mono x.2 fun q s₂ y => ?_⟩
      obtain ⟨h', d', tk, vs, c', rfl, rfl, hk, hS', hks⟩ := y
      show wpAny _ A (load s.heap.objs.size >>= _) _ _ _
      refine wpAny_bind (wpAny_load hS' ?_)
      exact wpAny_pure (h h' d' tk vs hk hks)
  · obtain ⟨_, _, _, _, _, e', _⟩ := x
    cases e'
theorem set_sorted {h₀ : Heap} {L : Addr} {m : Str → Option Value} {news : List (Addr × Obj)} {Q : Value → Shared → Prop} (F : Fr h₀ L s.heap m) (N : News h₀ L s.heap news) (hm : (a, o) ∈ news) (hs : StrSet prog w o ss) (hss : ss.length < 64) (hh : A.handled = none)
    (h : ∀ (D : Addr) (h' : Heap) d' (tk : Nat) (vs : List Value) (ks : List Str) (e : Nat), Fr h₀ L h' m → News h₀ L h' ((D, listOf vs.toArray e) :: news) → (∀ q ∈ news, q.1 < D) → StrsAre vs ks → ks.Perm ss → sortedS ks = true → Q (.ref D) { s with heap := h', drawn := d', toks := tk }) :
    wpAny (model prog w) A (call (.builtin "sorted") [.ref a]) Q E s := by
  have ho := (N _ hm).1
  refine PySem.Calls.call_function_entry kind_sorted plain_sorted entry_sorted (args_sorted1 _) ?_
  unfold Builtin.«sorted»
  refine wpAny_bind (m := checkCount "sorted" 1 1 _) (wpAny_pure ?_)
  refine wpAny_bind (set_collect (A := A.in1) ho hs (by omega) hh fun h1 d1 tk1 vs hk hks => ?_)
  obtain ⟨ks, q1, q2⟩ := hks
  have hvl : vs.length < 64 := by rw [q1.length, q2.length_eq]; exact hss
  refine wpAny_bind (wpAny_newList ?_ (by rw [sizeLine_eq]; omega))
  have hoL : (h1.push (seqObj "list" vs.toArray 0)).get? h1.objs.size = some (seqObj "list" vs.toArray 0) := Heap.get?_push_size _ rfl
  have F1 : Fr h₀ L h1 m := F.kept hk
  have N1 : News h₀ L h1 news := fun p hp => ⟨hk _ _ (N p hp).1, (N p hp).2⟩
  refine wpAny_bind (wpAny_holding (wpAny_call_entry slot_list_sort ⟨_, hoL, rfl⟩ entry_list_sort (list_sort_treeK strKind_oneLt hoL q1.keysOf (fun v₁ v₂ rest e => keyKind_strs (by rw [← e]; exact q1)) hvl fun st' a1 a2 => ⟨_, rfl, ?_⟩) (args_list_sort _)))
  obtain ⟨ks', r1, r2, r3⟩ := sorted_out_str q1 a1 a2
  obtain ⟨e, he⟩ := sortedHeap_at (vs := vs) (out := (arrOf st').map (·.2)) hoL
  have hold : ∀ b o, h1.get? b = some o → (sortedHeap (h1.push (seqObj "list" vs.toArray 0)) h1.objs.size vs ((arrOf st').map (·.2))).get? b = some o := fun b o eb => by
    have hlt := Heap.lt_size eb
    rw [sortedHeap_old (Nat.ne_of_lt hlt) (by rw [Heap.size_push]; exact Nat.lt_succ_of_lt hlt)]
    exact Heap.get?_push_of_some _ eb
  refine wpAny_pure ⟨_, rfl, ?_⟩
  exact h h1.objs.size _ d1 tk1 ((arrOf st').map (·.2)).toList ks' e (F1.kept hold) (N1.kept_cons F1 hold (Nat.le_refl _) he) (fun q hq => Heap.lt_size (N1 q hq).1) r1 (r2.trans q2) r3
end
end Mine
end
section
open PySem PySem.W PyProof.Rows
set_option Elab.async false
set_option maxRecDepth 100000
namespace Mine
end Mine
end
section
open PySem PySem.W PyProof.Rows PyProof.V PySem.Calls PyProof.Rows.LCg
set_option Elab.async false
set_option maxRecDepth 100000
namespace Mine
section
variable {prog : Program} {w : World} {A : Around} {E : Value → Shared → Prop} {s : Shared}
theorem nextS_item {it : Addr} {x : Str} {t : Tok} {i c : Nat} {Q : Value → Shared → Prop} (hit : s.heap.IsStrIter it "str_ascii_iterator" x t i) (hx : x.cps[i]? = some c)
    (hQ : ∀ h' tk, h'.IsStrIter it "str_ascii_iterator" x t (i + 1) → Heap.SameBut it s.heap h' → Q (.str ⟨#[c]⟩ s.toks) { s with heap := h', toks := tk }) :
    wpAny (model prog w) A (Builtin.SmallTypes.nextOf (.ref it)) Q E s := by
  obtain ⟨o, ho, hc, hd⟩ := id hit
  unfold Builtin.SmallTypes.nextOf
  refine wpAny_bind (wpAny_callSpecial?_slot (name := Str.ofString "__next__") hit.typeIs PySem.F.slot_str_ascii_iterator_next
    (wpAny_call_entry PySem.F.slot_str_ascii_iterator_next hit.typeIs PySem.F.entry_str_ascii_iterator_next ?_ (PySem.F.args_str_ascii_iterator_next_1 _)))
  show wpAny _ _ (field (.ref it) 0 >>= _) _ _ s
  refine wpAny_bind (wpAny_field ho hd (x := .str x t) rfl ?_)
  show wpAny _ _ (field (.ref it) 1 >>= _) _ _ s
  refine wpAny_bind (wpAny_field ho hd (x := .int i 0) rfl ?_)
  simp only [Int.toNat_natCast, hx]
  refine wpAny_bind (wpAny_setField ho hd (by simp) (wpAny_bind (wpAny_mkStr (wpAny_pure ⟨_, rfl, wpAny_pure (hQ _ _ ?_ (Heap.SameBut.update ..))⟩) (by show 1 ≤ sizeLine; decide))))
  exact ⟨_, Heap.get?_update_self _ ho (Obj.isFreed_of_fields (Obj.data_mapFields hd _)), (Obj.cls_mapFields ..).trans hc, by
    rw [Obj.data_mapFields hd]; simp [rawInt]⟩
theorem nextS_end {it : Addr} {x : Str} {t : Tok} {i : Nat} {Q : Value → Shared → Prop} (hh : A.handled = none) (hit : s.heap.IsStrIter it "str_ascii_iterator" x t i) (hx : x.cps[i]? = none)
    (hE : ∀ h' e, Heap.ExtBut it s.heap h' → (∃ o, h'.get? e = some o ∧ o.cls = .type "StopIteration") → E (.ref e) { s with heap := h' }) :
    wpAny (model prog w) A (Builtin.SmallTypes.nextOf (.ref it)) Q E s := by
  obtain ⟨o, ho, hc, hd⟩ := id hit
  unfold Builtin.SmallTypes.nextOf
  refine wpAny_bind (wpAny_callSpecial?_slot (name := Str.ofString "__next__") hit.typeIs PySem.F.slot_str_ascii_iterator_next
    (wpAny_call_entry PySem.F.slot_str_ascii_iterator_next hit.typeIs PySem.F.entry_str_ascii_iterator_next ?_ (PySem.F.args_str_ascii_iterator_next_1 _)))
  show wpAny _ _ (field (.ref it) 0 >>= _) _ _ s
  refine wpAny_bind (wpAny_field ho hd (x := .str x t) rfl ?_)
  show wpAny _ _ (field (.ref it) 1 >>= _) _ _ s
  refine wpAny_bind (wpAny_field ho hd (x := .int i 0) rfl ?_)
  simp only [Int.toNat_natCast, hx]
  refine wpAny_bind (wpAny_rule (wpAny_bind (wpAny_setField ho hd (by simp) (wpAny_bind (wpAny_letGo ?_)))))
  show wpAny _ _ (newExc (.type "StopIteration") [] >>= _) _ _ _
  refine wpAny_bind ?_
  simp only [newExc, newTuple]
  refine wpAny_bind (wpAny_newObj_type ?_ (by size_fits))
  refine wpAny_bind (m := firstArgMember _ _) (wpAny_of_eq (a := Value.none) (by first | rfl | (simp only [firstArgMember]; rfl)) ?_)
  refine wpAny_newObj_type ?_ (by size_fits)
  simp only [raiseNew]
  refine wpAny_bind (wpAny_handled ?_)
  first | rw [show A.in1.handled = none from hh] | rw [hh]
  refine wpAny_bind (wpAny_pure (wpAny_throw ?_))
  exact hE _ _ (((Heap.SameBut.update ..).extBut.push _).push _) ⟨_, Heap.get?_push_size _ rfl, rfl⟩
end
/-- an iterator: what it hands out, and where it stands -/
structure ItAt (prog : Program) (w : World) (i : Addr) (fp : List Addr) (n : Nat) (P : Nat → Value → Prop) (S : Nat → Heap → Prop) : Prop where
  own : i ∈ fp
  has : ∀ k h, S k h → ∃ o, h.get? i = some o
  keep : ∀ k h h', S k h → (∀ b ∈ fp, ∀ o, h.get? b = some o → h'.get? b = some o) → S k h'
  item : ∀ (A : Around) k (s : Shared) (Q : Value → Shared → Prop) (E : Value → Shared → Prop), k < n → S k s.heap → (∀ v h' tk, P k v → S (k + 1) h' → Heap.SameBut i s.heap h' → Q v { s with heap := h', toks := tk }) → wpAny (model prog w) A (Builtin.SmallTypes.nextOf (.ref i)) Q E s
  fin : ∀ (A : Around) (s : Shared) (Q : Value → Shared → Prop) (E : Value → Shared → Prop), A.handled = none → S n s.heap → (∀ h' e, Heap.ExtBut i s.heap h' → (∃ o, h'.get? e = some o ∧ o.cls = .type "StopIteration") → E (.ref e) { s with heap := h' }) → wpAny (model prog w) A (Builtin.SmallTypes.nextOf (.ref i)) Q E s
theorem ItAt.but {prog : Program} {w : World} {i : Addr} {fp : List Addr} {n : Nat} {P : Nat → Value → Prop} {S : Nat → Heap → Prop} (I : ItAt prog w i fp n P S) {k : Nat} {c : Addr} {h h' : Heap} (st : S k h) (hs : Heap.ExtBut c h h') (hc : c ∉ fp) : S k h' :=
  I.keep k h h' st fun b hb o e => hs b o (fun q => hc (q ▸ hb)) e
theorem ItAt.str {prog : Program} {w : World} (i : Addr) (x : Str) (t : Tok) : ItAt prog w i [i] x.cps.size (SignAt x) (fun k h => h.IsStrIter i "str_ascii_iterator" x t k) where
  own := .head _
  has := fun k h st => by obtain ⟨o, e, _⟩ := st; exact ⟨o, e⟩
  keep := fun k h h' st hk => by obtain ⟨o, e, r⟩ := st; exact ⟨o, hk i (.head _) o e, r⟩
  item := fun A k s Q E hk st hQ => nextS_item st (c := x.cps[k]) (by simp [hk]) fun h' tk st' hs => hQ _ h' tk ⟨_, _, by simp [hk], rfl⟩ st' hs
  fin := fun A s Q E hh st hE => nextS_end hh st (by simp) hE
theorem ItAt.list {prog : Program} {w : World} (i l : Addr) (xs : Array Value) (hne : l ≠ i) : ItAt prog w i [i, l] xs.size (fun k v => xs[k]? = some v) (fun k h => h.IsListIter i l k ∧ h.IsList l xs) where
  own := .head _
  has := fun k h st => by obtain ⟨⟨o, e, _⟩, _⟩ := st; exact ⟨o, e⟩
  keep := fun k h h' st hk => ⟨by obtain ⟨⟨o, e, r⟩, _⟩ := st; exact ⟨o, hk i (.head _) o e, r⟩, by obtain ⟨_, ⟨o, e, r⟩⟩ := st; exact ⟨o, hk l (.tail _ (.head _)) o e, r⟩⟩
  item := fun A k s Q E hk st hQ => wpAny_nextOf_list_item st.1 st.2 (x := xs[k]) (by simp [hk]) fun h' st' hs => hQ _ h' s.toks (by simp [hk]) ⟨st', st.2.extBut hs.extBut hne⟩ hs
  fin := fun A s Q E hh st hE => wpAny_nextOf_list_end hh st.1 st.2 (by simp) hE
end Mine
end
section
open PySem PySem.W PyProof.Rows PyProof.V PySem.Calls PyProof.Rows.LCg
set_option Elab.async false
set_option maxRecDepth 100000
namespace Mine
structure ZA (z TI TO i1 i2 : Addr) (f1 f2 : List Addr) : Prop where
  TIz : TI ≠ z
  TOz : TO ≠ z
  TITO : TI ≠ TO
  TIi1 : TI ≠ i1
  TIi2 : TI ≠ i2
  i1z : i1 ≠ z
  i2z : i2 ≠ z
  i1TO : i1 ≠ TO
  i2TO : i2 ≠ TO
  i12 : i1 ≠ i2
  z1 : z ∉ f1
  z2 : z ∉ f2
  t1 : TO ∉ f1
  t2 : TO ∉ f2
  o1 : i2 ∉ f1
  o2 : i1 ∉ f2
section
variable {prog : Program} {w : World} {A : Around} {E : Value → Shared → Prop} {s : Shared} {z TI TO i1 i2 : Addr} {f1 f2 : List Addr} {n1 n2 : Nat} {P1 P2 : Nat → Value → Prop} {S1 S2 : Nat → Heap → Prop}
theorem zipG_item {k1 k2 : Nat} {a b : Value} {Q : Value → Shared → Prop} (I1 : ItAt prog w i1 f1 n1 P1 S1) (I2 : ItAt prog w i2 f2 n2 P2 S2) (D : ZA z TI TO i1 i2 f1 f2)
    (hz : IsZip s.heap z TI TO .none) (hTI : IsPair s.heap TI (.ref i1) (.ref i2)) (hTO : IsPair s.heap TO a b) (h1 : S1 k1 s.heap) (h2 : S2 k2 s.heap) (l1 : k1 < n1) (l2 : k2 < n2)
    (hQ : ∀ h' tk x y, P1 k1 x → P2 k2 y → IsZip h' z TI TO (rawInt s.heap.objs.size) → IsPair h' TO x y → S1 (k1 + 1) h' → S2 (k2 + 1) h' → IsPair h' s.heap.objs.size x y →
      (∀ c o, c ≠ z → c ≠ TO → c ≠ i1 → c ≠ i2 → s.heap.get? c = some o → h'.get? c = some o) → Q (.ref s.heap.objs.size) { s with heap := h', toks := tk }) :
    wpAny (model prog w) A (Builtin.«zip.__next__» ⟨[.ref z], []⟩) (fun fin s' => ∃ v, fin = .done (.ret v) ∧ Q v s') E s := by
  show wpAny _ _ (field (.ref z) 2 >>= _) _ _ _
  refine wpAny_bind (wpAny_field hz rfl (x := .bool false) rfl ?_)
  show wpAny _ _ (field (.ref z) 3 >>= _) _ _ _
  refine wpAny_bind (wpAny_field hz rfl (x := .ref TI) rfl ?_)
  refine wpAny_bind (wpAny_seqItems hTI rfl ?_)
  show wpAny _ _ (Builtin.SmallTypes.ownedTupleIsFree (.ref z) >>= _) _ _ _
  refine wpAny_bind ?_
  unfold Builtin.SmallTypes.ownedTupleIsFree
  refine wpAny_bind (wpAny_field hz rfl (x := .none) rfl (wpAny_pure ?_))
  simp only [if_true]
  refine wpAny_bind (wpAny_rule ?_)
  refine wpAny_bind (wpAny_field hz rfl (x := .ref TO) rfl ?_)
  refine wpAny_bind (wpAny_setField_rec hz (by simp) fun h₁ hz₁ hs₁ => ?_)
  replace hz₁ : IsZip h₁ z TI TO .ellipsis := hz₁
  refine wpAny_bind ?_
  simp only [List.zipIdx_cons, List.zipIdx_nil, List.forIn_cons, List.forIn_nil]
  refine wpAny_bind (wpAny_bind (wpAny_onRaise ?_))
  show wpAny _ _ (Builtin.SmallTypes.nextOf (.ref i1) >>= _) _ _ _
  refine wpAny_bind (I1.item _ k1 _ _ _ l1 (I1.but h1 hs₁.extBut D.z1) fun x h₂ tk₂ hx h1₂ hs₂ => wpAny_pure ?_)
  have hTO₂ : IsPair h₂ TO a b := hs₂.extBut _ _ D.i1TO.symm (hs₁.extBut _ _ D.TOz hTO)
  refine wpAny_bind (wpAny_seqItems hTO₂ rfl ?_)
  refine wpAny_bind (wpAny_updateSeq_pair hTO₂ fun h₃ hTO₃ hs₃ => ?_)
  replace hTO₃ : IsPair h₃ TO x b := hTO₃
  refine wpAny_bind (wpAny_letGo (wpAny_pure ?_))
  refine wpAny_bind (wpAny_bind (wpAny_onRaise ?_))
  show wpAny _ _ (Builtin.SmallTypes.nextOf (.ref i2) >>= _) _ _ _
  refine wpAny_bind (I2.item _ k2 _ _ _ l2 (I2.but (I2.but (I2.but h2 hs₁.extBut D.z2) hs₂.extBut D.o2) hs₃.extBut D.t2) fun y h₄ tk₄ hy h2₄ hs₄ => wpAny_pure ?_)
  have hTO₄ : IsPair h₄ TO x b := hs₄.extBut _ _ D.i2TO.symm hTO₃
  refine wpAny_bind (wpAny_seqItems hTO₄ rfl ?_)
  refine wpAny_bind (wpAny_updateSeq_pair hTO₄ fun h₅ hTO₅ hs₅ => ?_)
  replace hTO₅ : IsPair h₅ TO x y := hTO₅
  refine wpAny_bind (wpAny_letGo (wpAny_pure (wpAny_pure ?_)))
  refine wpAny_bind (wpAny_seqItems hTO₅ rfl ?_)
  refine wpAny_bind (wpAny_newTuple ?_)
  have hsz : h₅.objs.size = s.heap.objs.size := by rw [hs₅.1, hs₄.1, hs₃.1, hs₂.1, hs₁.1]
  have hz₅ : IsZip h₅ z TI TO .ellipsis := hs₅.extBut _ _ D.TOz.symm (hs₄.extBut _ _ D.i2z.symm (hs₃.extBut _ _ D.TOz.symm (hs₂.extBut _ _ D.i1z.symm hz₁)))
  have hk₅ : ∀ c o, c ≠ z → c ≠ TO → c ≠ i1 → c ≠ i2 → s.heap.get? c = some o → h₅.get? c = some o := fun c o c1 c2 c3 c4 e =>
    hs₅.extBut _ _ c2 (hs₄.extBut _ _ c4 (hs₃.extBut _ _ c2 (hs₂.extBut _ _ c3 (hs₁.extBut _ _ c1 e))))
  have h1₅ : S1 (k1 + 1) h₅ := I1.but (I1.but (I1.but h1₂ hs₃.extBut D.t1) hs₄.extBut D.o1) hs₅.extBut D.t1
  have h2₅ : S2 (k2 + 1) h₅ := I2.but h2₄ hs₅.extBut D.t2
  have hzlt : z < h₅.objs.size := Heap.lt_size hz₅
  show wpAny _ _ (Builtin.SmallTypes.ownedTupleHandOut (.ref z) (.ref h₅.objs.size) >>= _) _ _ _
  refine wpAny_bind ?_
  unfold Builtin.SmallTypes.ownedTupleHandOut
  have hz₆ : IsZip (h₅.push { cls := .type "tuple", data := .seq #[x, y] }) z TI TO .ellipsis := Heap.get?_push_of_some _ hz₅
  refine wpAny_bind (wpAny_setField_rec hz₆ (by simp) fun h₇ hz₇ hs₇ => ?_)
  replace hz₇ : IsZip h₇ z TI TO (rawInt h₅.objs.size) := hz₇
  refine wpAny_setField_rec hz₇ (by simp) fun h₈ hz₈ hs₈ => ?_
  replace hz₈ : IsZip h₈ z TI TO (rawInt h₅.objs.size) := hz₈
  have up : ∀ c o, c ≠ z → h₅.get? c = some o → h₈.get? c = some o := fun c o c1 e => hs₈.extBut _ _ c1 (hs₇.extBut _ _ c1 (Heap.get?_push_of_some _ e))
  have hT₈ : IsPair h₈ h₅.objs.size x y := hs₈.extBut _ _ (Nat.ne_of_gt hzlt) (hs₇.extBut _ _ (Nat.ne_of_gt hzlt) (Heap.get?_push_size _ rfl))
  rw [hsz] at hz₈ hT₈
  refine wpAny_pure ⟨_, rfl, ?_⟩
  show Q (.ref h₅.objs.size) _
  rw [hsz]
  have k8 : ∀ f : List Addr, z ∉ f → ∀ b ∈ f, ∀ o, h₅.get? b = some o → h₈.get? b = some o := fun f hf b hb o e => up b o (fun q => hf (q ▸ hb)) e
  exact hQ h₈ _ x y hx hy hz₈ (up _ _ D.TOz hTO₅) (I1.keep _ _ _ h1₅ (k8 f1 D.z1)) (I2.keep _ _ _ h2₅ (k8 f2 D.z2)) hT₈ fun c o c1 c2 c3 c4 e => up c o c1 (hk₅ c o c1 c2 c3 c4 e)
theorem zipG_end {k1 k2 : Nat} {a b : Value} {Q : Fin → Shared → Prop} (hh : A.handled = none) (I1 : ItAt prog w i1 f1 n1 P1 S1) (I2 : ItAt prog w i2 f2 n2 P2 S2) (D : ZA z TI TO i1 i2 f1 f2)
    (hz : IsZip s.heap z TI TO .none) (hTI : IsPair s.heap TI (.ref i1) (.ref i2)) (hTO : IsPair s.heap TO a b) (h1 : S1 k1 s.heap) (h2 : S2 k2 s.heap) (hend : k1 = n1 ∨ (k1 < n1 ∧ k2 = n2))
    (hE : ∀ h' tk e, (∀ c o, c ≠ z → c ≠ TO → c ≠ i1 → c ≠ i2 → s.heap.get? c = some o → h'.get? c = some o) → (∃ o, h'.get? e = some o ∧ o.cls = .type "StopIteration") → E (.ref e) { s with heap := h', toks := tk }) :
    wpAny (model prog w) A (Builtin.«zip.__next__» ⟨[.ref z], []⟩) Q E s := by
  show wpAny _ _ (field (.ref z) 2 >>= _) _ _ _
  refine wpAny_bind (wpAny_field hz rfl (x := .bool false) rfl ?_)
  show wpAny _ _ (field (.ref z) 3 >>= _) _ _ _
  refine wpAny_bind (wpAny_field hz rfl (x := .ref TI) rfl ?_)
  refine wpAny_bind (wpAny_seqItems hTI rfl ?_)
  show wpAny _ _ (Builtin.SmallTypes.ownedTupleIsFree (.ref z) >>= _) _ _ _
  refine wpAny_bind ?_
  unfold Builtin.SmallTypes.ownedTupleIsFree
  refine wpAny_bind (wpAny_field hz rfl (x := .none) rfl (wpAny_pure ?_))
  simp only [if_true]
  refine wpAny_bind (wpAny_rule ?_)
  refine wpAny_bind (wpAny_field hz rfl (x := .ref TO) rfl ?_)
  refine wpAny_bind (wpAny_setField_rec hz (by simp) fun h₁ hz₁ hs₁ => ?_)
  replace hz₁ : IsZip h₁ z TI TO .ellipsis := hz₁
  refine wpAny_bind ?_
  simp only [List.zipIdx_cons, List.zipIdx_nil, List.forIn_cons, List.forIn_nil]
  refine wpAny_bind (wpAny_bind (wpAny_onRaise ?_))
  show wpAny _ _ (Builtin.SmallTypes.nextOf (.ref i1) >>= _) _ _ _
  rcases hend with rfl | ⟨l1, rfl⟩
  · refine wpAny_bind (I1.fin _ _ _ _ hh (I1.but h1 hs₁.extBut D.z1) fun h₂ e hs₂ he => ?_)
    obtain ⟨oe, hoe, hce⟩ := he
    have hz₂ : IsZip h₂ z TI TO .ellipsis := hs₂ _ _ D.i1z.symm hz₁
    have hez : e ≠ z := fun x => by subst x; rw [hz₂] at hoe; cases hoe; simp at hce
    refine wpAny_setField_rec hz₂ (by simp) fun h₃ _ hs₃ => hE h₃ _ e (fun c o c1 _ c3 _ x => hs₃.extBut _ _ c1 (hs₂ _ _ c3 (hs₁.extBut _ _ c1 x))) ⟨oe, hs₃.extBut _ _ hez hoe, hce⟩
  · refine wpAny_bind (I1.item _ k1 _ _ _ l1 (I1.but h1 hs₁.extBut D.z1) fun x h₂ tk₂ hx h1₂ hs₂ => wpAny_pure ?_)
    have hTO₂ : IsPair h₂ TO a b := hs₂.extBut _ _ D.i1TO.symm (hs₁.extBut _ _ D.TOz hTO)
    refine wpAny_bind (wpAny_seqItems hTO₂ rfl ?_)
    refine wpAny_bind (wpAny_updateSeq_pair hTO₂ fun h₃ hTO₃ hs₃ => ?_)
    refine wpAny_bind (wpAny_letGo (wpAny_pure ?_))
    refine wpAny_bind (wpAny_bind (wpAny_onRaise ?_))
    show wpAny _ _ (Builtin.SmallTypes.nextOf (.ref i2) >>= _) _ _ _
    refine wpAny_bind (I2.fin _ _ _ _ hh (I2.but (I2.but (I2.but h2 hs₁.extBut D.z2) hs₂.extBut D.o2) hs₃.extBut D.t2) fun h₄ e hs₄ he => ?_)
    obtain ⟨oe, hoe, hce⟩ := he
    have hz₄ : IsZip h₄ z TI TO .ellipsis := hs₄ _ _ D.i2z.symm (hs₃.extBut _ _ D.TOz.symm (hs₂.extBut _ _ D.i1z.symm hz₁))
    have hez : e ≠ z := fun x => by subst x; rw [hz₄] at hoe; cases hoe; simp at hce
    refine wpAny_setField_rec hz₄ (by simp) fun h₅ _ hs₅ => hE h₅ _ e (fun c o c1 c2 c3 c4 x => hs₅.extBut _ _ c1 (hs₄ _ _ c4 (hs₃.extBut _ _ c2 (hs₂.extBut _ _ c3 (hs₁.extBut _ _ c1 x))))) ⟨oe, hs₅.extBut _ _ hez hoe, hce⟩
theorem walksZ (hh : A.handled = none) (I1 : ItAt prog w i1 f1 n1 P1 S1) (I2 : ItAt prog w i2 f2 n2 P2 S2) (D : ZA z TI TO i1 i2 f1 f2) (ls : List Addr) (hf1 : ∀ b ∈ f1, b = i1 ∨ b ∈ ls) (hf2 : ∀ b ∈ f2, b = i2 ∨ b ∈ ls) :
    WalksT prog w A z ([z, TI, TO, i1, i2] ++ ls) [z, TO, i1, i2] (min n1 n2)
      (fun i vals => ∃ x y, P1 i x ∧ P2 i y ∧ vals = #[x, y])
      (fun i h => IsZip h z TI TO .none ∧ IsPair h TI (.ref i1) (.ref i2) ∧ (∃ a b, IsPair h TO a b) ∧ S1 i h ∧ S2 i h)
      (fun i T h => IsZip h z TI TO (rawInt T) ∧ IsPair h TI (.ref i1) (.ref i2) ∧ (∃ a b, IsPair h TO a b) ∧ S1 (i + 1) h ∧ S2 (i + 1) h ∧ T ≠ z ∧ T ≠ TO ∧ T ≠ i1 ∧ T ≠ i2) where
  sub := fun c hc => by
    simp at hc
    rcases hc with rfl | rfl | rfl | rfl <;> simp
  frame := fun i h h' hst hk => by
    obtain ⟨hz, hTI, ⟨a, b, hTO⟩, h1, h2⟩ := hst
    exact ⟨hk z (by simp) _ hz, hk TI (by simp) _ hTI, ⟨a, b, hk TO (by simp) _ hTO⟩, I1.keep _ _ _ h1 (fun b hb o e => hk b (by rcases hf1 b hb with rfl | hb <;> simp [*]) o e), I2.keep _ _ _ h2 (fun b hb o e => hk b (by rcases hf2 b hb with rfl | hb <;> simp [*]) o e)⟩
  item := fun i s Q E hi hst hQ => by
    obtain ⟨hz, hTI, ⟨a, b, hTO⟩, h1, h2⟩ := hst
    have hT : s.TypeIs (.ref z) "zip" := ⟨_, hz, rfl⟩
    have lt : ∀ {c o}, s.heap.get? c = some o → s.heap.objs.size ≠ c := fun e => Nat.ne_of_gt (Heap.lt_size e)
    unfold pyNext
    refine wpAny_bind (wpAny_attempt (wpAny_callSpecial?_slot (name := Str.ofString "__next__") hT PySem.F.slot_zip_next
      (wpAny_call_entry PySem.F.slot_zip_next hT PySem.F.entry_zip_next
        (zipG_item I1 I2 D hz hTI hTO h1 h2 (Nat.lt_of_lt_of_le hi (Nat.min_le_left ..)) (Nat.lt_of_lt_of_le hi (Nat.min_le_right ..)) fun h' tk x y px py a1 a2 a3 a4 a5 hk => wpAny_pure ?_) (PySem.F.args_zip_next_1 _))))
    exact hQ s.heap.objs.size #[x, y] h' tk ⟨x, y, px, py, rfl⟩ (Nat.le_refl _) ⟨_, a5, rfl, _, rfl⟩
      ⟨a1, hk _ _ D.TIz D.TITO D.TIi1 D.TIi2 hTI, ⟨_, _, a2⟩, a3, a4, lt hz, lt hTO, (by obtain ⟨_, e⟩ := I1.has _ _ h1; exact lt e), (by obtain ⟨_, e⟩ := I2.has _ _ h2; exact lt e)⟩
      fun c o hc e => hk c o (fun x => hc (by simp [x])) (fun x => hc (by simp [x])) (fun x => hc (by simp [x])) (fun x => hc (by simp [x])) e
  go := fun elts k pos i T s Q E hm hQ => by
    obtain ⟨hz, hTI, ⟨a, b, hTO⟩, h1, h2, _⟩ := hm
    refine wpAny_letOwnedTupleGo_zip hz fun h' hz' hs' => hQ h' ⟨hz', hs'.extBut _ _ D.TIz hTI, ⟨a, b, hs'.extBut _ _ D.TOz hTO⟩, I1.but h1 hs'.extBut D.z1, I2.but h2 hs'.extBut D.z2⟩ fun c o hc e => hs'.extBut _ _ (fun x => hc (by simp [x])) e
  apart := fun i T h hm hT => by
    obtain ⟨_, _, _, _, _, t1, t2, t3, t4⟩ := hm
    simp at hT
    rcases hT with rfl | rfl | rfl | rfl
    · exact t1 rfl
    · exact t2 rfl
    · exact t3 rfl
    · exact t4 rfl
  done := fun s Q E hst hQ => by
    obtain ⟨hz, hTI, ⟨a, b, hTO⟩, h1, h2⟩ := hst
    have hT : s.TypeIs (.ref z) "zip" := ⟨_, hz, rfl⟩
    have hend : min n1 n2 = n1 ∨ (min n1 n2 < n1 ∧ min n1 n2 = n2) := by omega
    unfold pyNext
    refine wpAny_bind (wpAny_attempt (wpAny_callSpecial?_slot (name := Str.ofString "__next__") hT PySem.F.slot_zip_next
      (wpAny_call_entry PySem.F.slot_zip_next hT PySem.F.entry_zip_next (zipG_end hh I1 I2 D hz hTI hTO h1 h2 hend fun h' tk e hk he => ?_) (PySem.F.args_zip_next_1 _))))
    obtain ⟨o, ho, hc⟩ := he
    refine wpAny_bind (wpAny_isInstance (T := "StopIteration") (b := true) ⟨o, ho, hc⟩ isSubtype_stop ?_)
    exact wpAny_pure (hQ _ tk fun c o hc e => hk c o (fun x => hc (by simp [x])) (fun x => hc (by simp [x])) (fun x => hc (by simp [x])) (fun x => hc (by simp [x])) e)
  self := fun i s Q E hst hQ => wpAny_pyIter_zip hst.1 hQ
end
end Mine
end
section
open PySem PySem.W PyProof.Rows PyProof.V PySem.Calls PyProof.Rows.LCg
set_option Elab.async false
set_option maxRecDepth 100000
set_option maxHeartbeats 2000000
namespace Mine
section
variable {prog : Program} {w : World} {A : Around} {E : Value → Shared → Prop} {s : Shared} {h₀ : Heap} {L : Addr} {m : Str → Option Value} {env : Env}
/-- what a comprehension with two targets asks of any zip -/
def SrcW (prog : Program) (w : World) (A : Around) (h₀ : Heap) (L : Addr) (m : Str → Option Value) (env : Env) (elt : PySem.Expr) (ifs : List PySem.Expr) (x x₂ : Str) (scope : Scope) (cl : List (Str × Addr)) (Q : Value → Shared → Prop) (xv : Value) (s₁ : Shared) : Prop :=
  ∀ G : Prop, (∀ (z TI TO i1 i2 : Addr) (ls : List Addr) (X Y : Nat → Value → Prop) (St : Nat → Heap → Prop) (Mid : Nat → Addr → Heap → Prop) (news : List (Addr × Obj)) (J : Nat → List Value → Prop) (n : Nat),
    (xv = .ref z) →
    (A.handled = none) →
    (IsZip s₁.heap z TI TO .none) →
    (WalksT prog w A z ([z, TI, TO, i1, i2] ++ ls) [z, TO, i1, i2] n (fun i vals => ∃ x y, X i x ∧ Y i y ∧ vals = #[x, y]) St Mid) →
    (St 0 s₁.heap) →
    (∀ i h, St i h → ∃ oz oTI oTO o1 o2, h.get? z = some oz ∧ h.get? TI = some oTI ∧ h.get? TO = some oTO ∧ h.get? i1 = some o1 ∧ h.get? i2 = some o2) →
    (TI ∉ [z, TO, i1, i2]) →
    (∀ b ∈ ls, ∃ o, (b, o) ∈ news) →
    (Fr h₀ L s₁.heap m) →
    (News h₀ L s₁.heap news) →
    (∀ b, b = z ∨ b = TI ∨ b = TO ∨ b = i1 ∨ b = i2 → h₀.get? b = none ∧ b ≠ L ∧ ∀ p ∈ news, p.1 ≠ b) →
    (n ≤ sizeLine) →
    (J 0 []) →
    (∀ i ys' v₁ v₂, X i v₁ → Y i v₂ → J i ys' → ys'.length ≤ i → ∀ oz oTI oTO o1 o2 C oC D m₂ h tk (E' : Value → Shared → Prop), NsObj oC m₂ → m₂ x = some v₁ → m₂ x₂ = some v₂ → Fr h₀ L h m →
      News h₀ L h ((z, oz) :: (TI, oTI) :: (TO, oTO) :: (i1, o1) :: (i2, o2) :: (C, oC) :: (D, lst ys') :: news) →
      wpAny (model prog w) A (forIn ifs true fun c r => if r = true then do let ok ← isTrue c (compEnvC scope cl C env) (eval c (compEnvC scope cl C env)); pure (ForInStep.yield ok) else pure (ForInStep.yield r)) (fun ok s' => if ok = true then
        wpAny (model prog w) A (eval elt (compEnvC scope cl C env)) (fun y s'' => TurnEnd h₀ L m { s₁ with heap := h, toks := tk } ((z, oz) :: (TI, oTI) :: (TO, oTO) :: (i1, o1) :: (i2, o2) :: (C, oC) :: (D, lst ys') :: news) (J (i + 1) (ys' ++ [y])) s'') E' s'
        else TurnEnd h₀ L m { s₁ with heap := h, toks := tk } ((z, oz) :: (TI, oTI) :: (TO, oTO) :: (i1, o1) :: (i2, o2) :: (C, oC) :: (D, lst ys') :: news) (J (i + 1) ys') s') E' { s₁ with heap := h, toks := tk }) →
    (∀ D ys' h tk, J n ys' → Fr h₀ L h m → News h₀ L h ((D, lst ys') :: news) → (∀ p ∈ news, p.1 ≠ D) → Q (.ref D) { s₁ with heap := h, toks := tk }) → G) → G
theorem ListComp_W {elt iter : PySem.Expr} {ifs : List PySem.Expr} {x x₂ : Str} {px px₂ tp : Pos} {tk} {scope : Scope} {cl : List (Str × Addr)} {pos : Pos} {Q : Value → Shared → Prop} (F₀ : Fr h₀ L s.heap m)
    (hclos : closureFor scope env = pure cl) (hcell : ∀ y ∈ scope.names, y.2 ≠ .cell) (hkind : scope.kind = .function)
    (hnames : ∀ y ∈ scope.names, y.2 = .local → scope.names.lookup y.1 = some .local) (hx : scope.names.lookup x = some .local) (hx₂ : scope.names.lookup x₂ = some .local) (hxx : x ≠ x₂)
    (h : wpAny (model prog w) A (eval iter env) (SrcW prog w A h₀ L m env elt ifs x x₂ scope cl Q) E s)
    (hs : ∀ x, foldedSetIterable iter env x = pure x := by intro _; rfl) :
    wpAny (model prog w) A (eval (.ListComp elt [⟨.Tuple [.Name x px, .Name x₂ px₂] tk tp, iter, ifs, 0⟩] scope pos) env) Q E s := by
  rw [eval_ListComp]
  refine wpAny_comprehension_free (use := none) rfl hs hclos hkind hnames (wpAny_mono h (fun xv s₁ h₁ => ?_) fun _ _ e => e)
  refine h₁ _ fun z TI TO i1 i2 ls X Y St Mid news J n hxv hh hz W st0 hObj hTI hls F N off hsz hJ turn fin => ?_
  subst hxv
  refine wpAny_pyIter_zip hz ?_
  refine block_W hh W st0 hObj hTI hls F N off hsz hJ hcell hkind hx hx₂ hxx turn ?_
  intro D C h tk m' ys' j F' N' o1 hn hC₀ hCL hCD offC
  refine ⟨m', hn, fun h'' hs'' => fin D ys' h'' tk j (F'.change hs'' hCL hC₀) (fun p hp => ?_) o1⟩
  refine ⟨hs''.extBut _ _ ?_ (N' p hp).1, (N' p hp).2⟩
  rcases List.mem_cons.mp hp with rfl | hp
  · exact Ne.symm hCD
  · exact offC p hp
end
section
abbrev sIt (x : Str) (t : Tok) : Obj := { cls := .type "str_ascii_iterator", data := .fields #[.str x t, .int 0 0] }
abbrev zH3 (h : Heap) (a b : Str) (t u : Tok) : Heap := ((h.push (sIt a t)).push (sIt b u)).push { cls := .type "tuple", data := .seq #[.ref h.objs.size, .ref (h.push (sIt a t)).objs.size] }
abbrev zH4 (h : Heap) (a b : Str) (t u : Tok) : Heap := (zH3 h a b t u).push { cls := .type "tuple", data := .seq #[.none, .none] }
abbrev zH5 (h : Heap) (a b : Str) (t u : Tok) : Heap := (zH4 h a b t u).push { cls := .type "zip", data := .fields #[.none, .bool false, .bool false, .ref ((h.push (sIt a t)).push (sIt b u)).objs.size, .ref (zH3 h a b t u).objs.size] }
theorem meets_zipS (a b : Str) (t u : Tok) (ha : a.cps.all (· < 128) = true) (hb : b.cps.all (· < 128) = true) :
    Meets (Builtin.«zip.__new__» ⟨[.type "zip", .str a t, .str b u], []⟩) (fun _ R s => R (.ok (.ret (.ref (zH4 s.heap a b t u).objs.size))) { s with heap := zH5 s.heap a b t u }) :=
  .of_wp fun prog w A R s h => by
    obtain ⟨hp, g, d, tk, os⟩ := s
    have hsub := sub_zip
    wp_walk using wpAny_pyIter_ascii ha, wpAny_pyIter_ascii hb
    exact ⟨_, rfl, h⟩
variable {prog : Program} {w : World} {A : Around} {E : Value → Shared → Prop} {s : Shared}
theorem call_zipS {a b : Str} {t u : Tok} {Q : Value → Shared → Prop} (ha : a.cps.all (· < 128) = true) (hb : b.cps.all (· < 128) = true)
    (h : ∀ h', IsZip h' (s.heap.objs.size + 4) (s.heap.objs.size + 2) (s.heap.objs.size + 3) .none → IsPair h' (s.heap.objs.size + 2) (.ref s.heap.objs.size) (.ref (s.heap.objs.size + 1)) →
      IsPair h' (s.heap.objs.size + 3) .none .none → h'.IsStrIter s.heap.objs.size "str_ascii_iterator" a t 0 → h'.IsStrIter (s.heap.objs.size + 1) "str_ascii_iterator" b u 0 → h'.objs.size = s.heap.objs.size + 5 →
      (∀ c o, s.heap.get? c = some o → h'.get? c = some o) → Q (.ref (s.heap.objs.size + 4)) { s with heap := h' }) :
    wpAny (model prog w) A (call (.type "zip") [.str a t, .str b u]) Q E s := by
  refine callType_new PySem.F.called_zip (by decide) (PySem.F.typeCall_zip_2 _ _) (PySem.F.newCall_zip_2 _ _) (fun obj => PySem.F.args_object_init_3 obj _ _) PySem.F.entry_zip_new
    (meets_zipS a b t u ha hb) ?_
  have z1 : (s.heap.push (sIt a t)).objs.size = s.heap.objs.size + 1 := Heap.size_push ..
  have z2 : ((s.heap.push (sIt a t)).push (sIt b u)).objs.size = s.heap.objs.size + 2 := by rw [Heap.size_push, z1]
  have z3 : (zH3 s.heap a b t u).objs.size = s.heap.objs.size + 3 := by rw [Heap.size_push, z2]
  have z4 : (zH4 s.heap a b t u).objs.size = s.heap.objs.size + 4 := by rw [Heap.size_push, z3]
  have z5 : (zH5 s.heap a b t u).objs.size = s.heap.objs.size + 5 := by rw [Heap.size_push, z4]
  have g5 : (zH5 s.heap a b t u).get? (zH4 s.heap a b t u).objs.size = some _ := Heap.get?_push_size _ rfl
  have g4 : (zH5 s.heap a b t u).get? (zH3 s.heap a b t u).objs.size = some _ := Heap.get?_push_of_some _ (Heap.get?_push_size _ rfl)
  have g3 : (zH5 s.heap a b t u).get? ((s.heap.push (sIt a t)).push (sIt b u)).objs.size = some _ := Heap.get?_push_of_some _ (Heap.get?_push_of_some _ (Heap.get?_push_size _ rfl))
  have g2 : (zH5 s.heap a b t u).get? (s.heap.push (sIt a t)).objs.size = some _ := Heap.get?_push_of_some _ (Heap.get?_push_of_some _ (Heap.get?_push_of_some _ (Heap.get?_push_size _ rfl)))
  have g1 : (zH5 s.heap a b t u).get? s.heap.objs.size = some _ := Heap.get?_push_of_some _ (Heap.get?_push_of_some _ (Heap.get?_push_of_some _ (Heap.get?_push_of_some _ (Heap.get?_push_size _ rfl))))
  show _ ∧ _
  rw [z2, z3, z4] at g5
  rw [z1, z2] at g3
  rw [z3] at g4
  rw [z1] at g2
  rw [z4]
  exact ⟨⟨_, g5, rfl⟩, h _ g5 g3 g4 ⟨_, g1, rfl, rfl⟩ ⟨_, g2, rfl, rfl⟩ z5 fun c o x =>
    Heap.get?_push_of_some _ (Heap.get?_push_of_some _ (Heap.get?_push_of_some _ (Heap.get?_push_of_some _ (Heap.get?_push_of_some _ x))))⟩
end
end Mine
end
section
open PySem PySem.W PyProof.Rows PyProof.V PySem.Calls PyProof.Rows.LCg
set_option Elab.async false
set_option maxRecDepth 100000
set_option maxHeartbeats 2000000
namespace Mine
theorem zaNew (n : Nat) : ZA (n + 4) (n + 2) (n + 3) n (n + 1) [n] [n + 1] := by
  constructor <;> (try simp only [List.mem_singleton]) <;> (intro (e : (_ : Nat) = _); omega)
section
variable {prog : Program} {w : World} {A : Around} {E : Value → Shared → Prop} {s : Shared} {h₀ : Heap} {L : Addr} {m : Str → Option Value} {env : Env}
theorem SrcW.callSS {elt : PySem.Expr} {ifs : List PySem.Expr} {x x₂ : Str} {scope : Scope} {cl : List (Str × Addr)} {Q : Value → Shared → Prop} {a b : Str} {t u : Tok} {n : Nat} {news : List (Addr × Obj)} (J : Nat → List Value → Prop)
    (hh : A.handled = none) (F : Fr h₀ L s.heap m) (N : News h₀ L s.heap news) (ha : a.cps.all (· < 128) = true) (hb : b.cps.all (· < 128) = true) (hsz : n ≤ sizeLine) (hlen : min a.cps.size b.cps.size = n) (hJ : J 0 [])
    (turn : ∀ z TI TO i1 i2 i ys' c d u₁ u₂ g, a.cps[i]? = some c → b.cps[i]? = some d → J i ys' → ys'.length ≤ i → ∀ oz oTI oTO o1 o2 C oC D m₂ h tk (E' : Value → Shared → Prop), NsObj oC m₂ → m₂ x = some (.str ⟨#[c]⟩ u₁) → m₂ x₂ = some (.str ⟨#[d]⟩ u₂) → Fr h₀ L h m →
      News h₀ L h ((z, oz) :: (TI, oTI) :: (TO, oTO) :: (i1, o1) :: (i2, o2) :: (C, oC) :: (D, lst ys') :: news) →
      wpAny (model prog w) A (forIn ifs true fun c r => if r = true then do let ok ← isTrue c (compEnvC scope cl C env) (eval c (compEnvC scope cl C env)); pure (ForInStep.yield ok) else pure (ForInStep.yield r)) (fun ok s' => if ok = true then
        wpAny (model prog w) A (eval elt (compEnvC scope cl C env)) (fun y s'' => TurnEnd h₀ L m { s with heap := g, toks := tk } ((z, oz) :: (TI, oTI) :: (TO, oTO) :: (i1, o1) :: (i2, o2) :: (C, oC) :: (D, lst ys') :: news) (J (i + 1) (ys' ++ [y])) s'') E' s'
        else TurnEnd h₀ L m { s with heap := g, toks := tk } ((z, oz) :: (TI, oTI) :: (TO, oTO) :: (i1, o1) :: (i2, o2) :: (C, oC) :: (D, lst ys') :: news) (J (i + 1) ys') s') E' { s with heap := h, toks := tk })
    (fin : ∀ D ys' h tk, J n ys' → Fr h₀ L h m → News h₀ L h ((D, lst ys') :: news) → (∀ p ∈ news, p.1 ≠ D) → Q (.ref D) { s with heap := h, toks := tk }) :
    wpAny (model prog w) A (call (.type "zip") [.str a t, .str b u]) (SrcW prog w A h₀ L m env elt ifs x x₂ scope cl Q) E s := by
  refine call_zipS ha hb fun h' hz hTI hTO hi1 hi2 hsz' hk => ?_
  have fr : ∀ b, s.heap.objs.size ≤ b → h₀.get? b = none ∧ b ≠ L ∧ ∀ p ∈ news, p.1 ≠ b := fun b hb => ⟨by
    cases e : h₀.get? b with
    | none => rfl
    | some o' => exact absurd (Heap.lt_size (F.keep b o' e)) (Nat.not_lt.mpr hb), fun e => absurd (e ▸ F.ns.lt) (Nat.not_lt.mpr hb), fun p hp e => absurd (e ▸ Heap.lt_size (N p hp).1) (Nat.not_lt.mpr hb)⟩
  have D := zaNew s.heap.objs.size
  have W := walksZ (prog := prog) (w := w) hh (ItAt.str (prog := prog) (w := w) s.heap.objs.size a t) (ItAt.str (prog := prog) (w := w) (s.heap.objs.size + 1) b u) D [] (fun c hc => .inl (List.mem_singleton.mp hc)) (fun c hc => .inl (List.mem_singleton.mp hc))
  rw [hlen] at W
  refine fun G k => k _ _ _ _ _ [] _ _ _ _ news J n rfl hh hz W ⟨hz, hTI, ⟨_, _, hTO⟩, hi1, hi2⟩ ?_ ?_ (fun b hb => nomatch hb) (F.keeps hk) (N.grown hk) ?_ hsz hJ ?_ ?_
  · rintro i h ⟨e1, e2, ⟨a, b, e3⟩, ⟨o1, e4, _⟩, ⟨o2, e5, _⟩⟩
    exact ⟨_, _, _, o1, o2, e1, e2, e3, e4, e5⟩
  · simp only [List.mem_cons, List.not_mem_nil, or_false, not_or]
    exact ⟨D.TIz, D.TITO, D.TIi1, D.TIi2⟩
  · rintro b (rfl | rfl | rfl | rfl | rfl)
    · exact fr _ (Nat.le_add_right _ _)
    · exact fr _ (Nat.le_add_right _ _)
    · exact fr _ (Nat.le_add_right _ _)
    · exact fr _ (Nat.le_refl _)
    · exact fr _ (Nat.le_add_right _ _)
  · rintro i ys' v₁ v₂ ⟨c, u₁, e1, rfl⟩ ⟨d, u₂, e2, rfl⟩ j hyl oz oTI oTO o1 o2 C oC D m₂ h tk E' a b c F' N'
    exact turn _ _ _ _ _ i ys' _ _ u₁ u₂ _ e1 e2 j hyl oz oTI oTO o1 o2 C oC D m₂ h tk E' a b c F' N'
  · intro D ys' h tk j F' N' o
    exact fin D ys' h tk j F' N' o
end
end Mine
end
section
open PySem PySem.W PyProof.Rows PyProof.V PySem.Calls PyProof.Rows.LCg
set_option Elab.async false
set_option maxRecDepth 100000
set_option maxHeartbeats 2000000
namespace Mine
abbrev IsTri (h : Heap) (T : Addr) (a b c : Value) : Prop := h.get? T = some { cls := .type "tuple", data := .seq #[a, b, c] }
structure ZB (z TI TO i1 i2 i3 : Addr) (f1 f2 f3 : List Addr) : Prop where
  TIz : TI ≠ z
  TOz : TO ≠ z
  TITO : TI ≠ TO
  TIi1 : TI ≠ i1
  TIi2 : TI ≠ i2
  TIi3 : TI ≠ i3
  i1z : i1 ≠ z
  i2z : i2 ≠ z
  i3z : i3 ≠ z
  i1TO : i1 ≠ TO
  i2TO : i2 ≠ TO
  i3TO : i3 ≠ TO
  z1 : z ∉ f1
  z2 : z ∉ f2
  z3 : z ∉ f3
  t1 : TO ∉ f1
  t2 : TO ∉ f2
  t3 : TO ∉ f3
  o12 : i2 ∉ f1
  o13 : i3 ∉ f1
  o21 : i1 ∉ f2
  o23 : i3 ∉ f2
  o31 : i1 ∉ f3
  o32 : i2 ∉ f3
section
variable {prog : Program} {w : World} {A : Around} {E : Value → Shared → Prop} {s : Shared} {z TI TO i1 i2 i3 : Addr} {f1 f2 f3 : List Addr} {n1 n2 n3 : Nat} {P1 P2 P3 : Nat → Value → Prop} {S1 S2 S3 : Nat → Heap → Prop}
theorem upd_tri {T : Addr} {a b c x : Value} {k : Nat} {Q : Unit → Shared → Prop} (hT : IsTri s.heap T a b c)
    (h : ∀ h', h'.get? T = some { cls := .type "tuple", data := .seq ((#[a, b, c] : Array Value).setIfInBounds k x) } → Heap.SameBut T s.heap h' → Q () { s with heap := h' }) :
    wpAny (model prog w) A (updateSeq T (·.setIfInBounds k x)) Q E s := by
  refine wpAny_updateSeq hT rfl (h _ ?_ (Heap.SameBut.update ..))
  rw [Heap.get?_update_self _ hT rfl]
  simp [Obj.mapSeq]
theorem zipH_item {k : Nat} {a b c : Value} {Q : Value → Shared → Prop} (I1 : ItAt prog w i1 f1 n1 P1 S1) (I2 : ItAt prog w i2 f2 n2 P2 S2) (I3 : ItAt prog w i3 f3 n3 P3 S3) (D : ZB z TI TO i1 i2 i3 f1 f2 f3)
    (hz : IsZip s.heap z TI TO .none) (hTI : IsTri s.heap TI (.ref i1) (.ref i2) (.ref i3)) (hTO : IsTri s.heap TO a b c) (h1 : S1 k s.heap) (h2 : S2 k s.heap) (h3 : S3 k s.heap) (l1 : k < n1) (l2 : k < n2) (l3 : k < n3)
    (hQ : ∀ h' tk x y u, P1 k x → P2 k y → P3 k u → IsZip h' z TI TO (rawInt s.heap.objs.size) → IsTri h' TO x y u → S1 (k + 1) h' → S2 (k + 1) h' → S3 (k + 1) h' → IsTri h' s.heap.objs.size x y u →
      (∀ c o, c ≠ z → c ≠ TO → c ≠ i1 → c ≠ i2 → c ≠ i3 → s.heap.get? c = some o → h'.get? c = some o) → Q (.ref s.heap.objs.size) { s with heap := h', toks := tk }) :
    wpAny (model prog w) A (Builtin.«zip.__next__» ⟨[.ref z], []⟩) (fun fin s' => ∃ v, fin = .done (.ret v) ∧ Q v s') E s := by
  show wpAny _ _ (field (.ref z) 2 >>= _) _ _ _
  refine wpAny_bind (wpAny_field hz rfl (x := .bool false) rfl ?_)
  show wpAny _ _ (field (.ref z) 3 >>= _) _ _ _
  refine wpAny_bind (wpAny_field hz rfl (x := .ref TI) rfl ?_)
  refine wpAny_bind (wpAny_seqItems hTI rfl ?_)
  show wpAny _ _ (Builtin.SmallTypes.ownedTupleIsFree (.ref z) >>= _) _ _ _
  refine wpAny_bind ?_
  unfold Builtin.SmallTypes.ownedTupleIsFree
  refine wpAny_bind (wpAny_field hz rfl (x := .none) rfl (wpAny_pure ?_))
  simp only [if_true]
  refine wpAny_bind (wpAny_rule ?_)
  refine wpAny_bind (wpAny_field hz rfl (x := .ref TO) rfl ?_)
  refine wpAny_bind (wpAny_setField_rec hz (by simp) fun h₁ hz₁ hs₁ => ?_)
  replace hz₁ : IsZip h₁ z TI TO .ellipsis := hz₁
  refine wpAny_bind ?_
  simp only [List.zipIdx_cons, List.zipIdx_nil, List.forIn_cons, List.forIn_nil]
  refine wpAny_bind (wpAny_bind (wpAny_onRaise ?_))
  show wpAny _ _ (Builtin.SmallTypes.nextOf (.ref i1) >>= _) _ _ _
  refine wpAny_bind (I1.item _ k _ _ _ l1 (I1.but h1 hs₁.extBut D.z1) fun x h₂ tk₂ hx h1₂ hs₂ => wpAny_pure ?_)
  have hTO₂ : IsTri h₂ TO a b c := hs₂.extBut _ _ D.i1TO.symm (hs₁.extBut _ _ D.TOz hTO)
  refine wpAny_bind (wpAny_seqItems hTO₂ rfl ?_)
  refine wpAny_bind (upd_tri hTO₂ fun h₃ hTO₃ hs₃ => ?_)
  replace hTO₃ : IsTri h₃ TO x b c := hTO₃
  refine wpAny_bind (wpAny_letGo (wpAny_pure ?_))
  refine wpAny_bind (wpAny_bind (wpAny_onRaise ?_))
  show wpAny _ _ (Builtin.SmallTypes.nextOf (.ref i2) >>= _) _ _ _
  refine wpAny_bind (I2.item _ k _ _ _ l2 (I2.but (I2.but (I2.but h2 hs₁.extBut D.z2) hs₂.extBut D.o21) hs₃.extBut D.t2) fun y h₄ tk₄ hy h2₄ hs₄ => wpAny_pure ?_)
  have hTO₄ : IsTri h₄ TO x b c := hs₄.extBut _ _ D.i2TO.symm hTO₃
  refine wpAny_bind (wpAny_seqItems hTO₄ rfl ?_)
  refine wpAny_bind (upd_tri hTO₄ fun h₅ hTO₅ hs₅ => ?_)
  replace hTO₅ : IsTri h₅ TO x y c := hTO₅
  refine wpAny_bind (wpAny_letGo (wpAny_pure ?_))
  refine wpAny_bind (wpAny_bind (wpAny_onRaise ?_))
  show wpAny _ _ (Builtin.SmallTypes.nextOf (.ref i3) >>= _) _ _ _
  refine wpAny_bind (I3.item _ k _ _ _ l3 (I3.but (I3.but (I3.but (I3.but (I3.but h3 hs₁.extBut D.z3) hs₂.extBut D.o31) hs₃.extBut D.t3) hs₄.extBut D.o32) hs₅.extBut D.t3) fun u h₆ tk₆ hu h3₆ hs₆ => wpAny_pure ?_)
  have hTO₆ : IsTri h₆ TO x y c := hs₆.extBut _ _ D.i3TO.symm hTO₅
  refine wpAny_bind (wpAny_seqItems hTO₆ rfl ?_)
  refine wpAny_bind (upd_tri hTO₆ fun h₇ hTO₇ hs₇ => ?_)
  replace hTO₇ : IsTri h₇ TO x y u := hTO₇
  refine wpAny_bind (wpAny_letGo (wpAny_pure (wpAny_pure ?_)))
  refine wpAny_bind (wpAny_seqItems hTO₇ rfl ?_)
  refine wpAny_bind (wpAny_newTuple ?_)
  have hsz : h₇.objs.size = s.heap.objs.size := by rw [hs₇.1, hs₆.1, hs₅.1, hs₄.1, hs₃.1, hs₂.1, hs₁.1]
  have hz₇ : IsZip h₇ z TI TO .ellipsis := hs₇.extBut _ _ D.TOz.symm (hs₆.extBut _ _ D.i3z.symm (hs₅.extBut _ _ D.TOz.symm (hs₄.extBut _ _ D.i2z.symm (hs₃.extBut _ _ D.TOz.symm (hs₂.extBut _ _ D.i1z.symm hz₁)))))
  have hk₇ : ∀ c o, c ≠ z → c ≠ TO → c ≠ i1 → c ≠ i2 → c ≠ i3 → s.heap.get? c = some o → h₇.get? c = some o := fun c o c1 c2 c3 c4 c5 e =>
    hs₇.extBut _ _ c2 (hs₆.extBut _ _ c5 (hs₅.extBut _ _ c2 (hs₄.extBut _ _ c4 (hs₃.extBut _ _ c2 (hs₂.extBut _ _ c3 (hs₁.extBut _ _ c1 e))))))
  have h1₇ : S1 (k + 1) h₇ := I1.but (I1.but (I1.but (I1.but (I1.but h1₂ hs₃.extBut D.t1) hs₄.extBut D.o12) hs₅.extBut D.t1) hs₆.extBut D.o13) hs₇.extBut D.t1
  have h2₇ : S2 (k + 1) h₇ := I2.but (I2.but (I2.but h2₄ hs₅.extBut D.t2) hs₆.extBut D.o23) hs₇.extBut D.t2
  have h3₇ : S3 (k + 1) h₇ := I3.but h3₆ hs₇.extBut D.t3
  have hzlt : z < h₇.objs.size := Heap.lt_size hz₇
  show wpAny _ _ (Builtin.SmallTypes.ownedTupleHandOut (.ref z) (.ref h₇.objs.size) >>= _) _ _ _
  refine wpAny_bind ?_
  unfold Builtin.SmallTypes.ownedTupleHandOut
  have hz₈ : IsZip (h₇.push { cls := .type "tuple", data := .seq #[x, y, u] }) z TI TO .ellipsis := Heap.get?_push_of_some _ hz₇
  refine wpAny_bind (wpAny_setField_rec hz₈ (by simp) fun h₉ hz₉ hs₉ => ?_)
  replace hz₉ : IsZip h₉ z TI TO (rawInt h₇.objs.size) := hz₉
  refine wpAny_setField_rec hz₉ (by simp) fun h₀ hz₀ hs₀ => ?_
  replace hz₀ : IsZip h₀ z TI TO (rawInt h₇.objs.size) := hz₀
  have up : ∀ c o, c ≠ z → h₇.get? c = some o → h₀.get? c = some o := fun c o c1 e => hs₀.extBut _ _ c1 (hs₉.extBut _ _ c1 (Heap.get?_push_of_some _ e))
  have hT₀ : IsTri h₀ h₇.objs.size x y u := hs₀.extBut _ _ (Nat.ne_of_gt hzlt) (hs₉.extBut _ _ (Nat.ne_of_gt hzlt) (Heap.get?_push_size _ rfl))
  rw [hsz] at hz₀ hT₀
  refine wpAny_pure ⟨_, rfl, ?_⟩
  show Q (.ref h₇.objs.size) _
  rw [hsz]
  have k8 : ∀ f : List Addr, z ∉ f → ∀ b ∈ f, ∀ o, h₇.get? b = some o → h₀.get? b = some o := fun f hf b hb o e => up b o (fun q => hf (q ▸ hb)) e
  exact hQ h₀ _ x y u hx hy hu hz₀ (up _ _ D.TOz hTO₇) (I1.keep _ _ _ h1₇ (k8 f1 D.z1)) (I2.keep _ _ _ h2₇ (k8 f2 D.z2)) (I3.keep _ _ _ h3₇ (k8 f3 D.z3)) hT₀ fun c o c1 c2 c3 c4 c5 e => up c o c1 (hk₇ c o c1 c2 c3 c4 c5 e)
/-- the first of the three is the first to end -/
theorem zipH_end {a b c : Value} {Q : Fin → Shared → Prop} (hh : A.handled = none) (I1 : ItAt prog w i1 f1 n1 P1 S1) (D : ZB z TI TO i1 i2 i3 f1 f2 f3)
    (hz : IsZip s.heap z TI TO .none) (hTI : IsTri s.heap TI (.ref i1) (.ref i2) (.ref i3)) (hTO : IsTri s.heap TO a b c) (h1 : S1 n1 s.heap)
    (hE : ∀ h' tk e, (∀ c o, c ≠ z → c ≠ TO → c ≠ i1 → s.heap.get? c = some o → h'.get? c = some o) → (∃ o, h'.get? e = some o ∧ o.cls = .type "StopIteration") → E (.ref e) { s with heap := h', toks := tk }) :
    wpAny (model prog w) A (Builtin.«zip.__next__» ⟨[.ref z], []⟩) Q E s := by
  show wpAny _ _ (field (.ref z) 2 >>= _) _ _ _
  refine wpAny_bind (wpAny_field hz rfl (x := .bool false) rfl ?_)
  show wpAny _ _ (field (.ref z) 3 >>= _) _ _ _
  refine wpAny_bind (wpAny_field hz rfl (x := .ref TI) rfl ?_)
  refine wpAny_bind (wpAny_seqItems hTI rfl ?_)
  show wpAny _ _ (Builtin.SmallTypes.ownedTupleIsFree (.ref z) >>= _) _ _ _
  refine wpAny_bind ?_
  unfold Builtin.SmallTypes.ownedTupleIsFree
  refine wpAny_bind (wpAny_field hz rfl (x := .none) rfl (wpAny_pure ?_))
  simp only [if_true]
  refine wpAny_bind (wpAny_rule ?_)
  refine wpAny_bind (wpAny_field hz rfl (x := .ref TO) rfl ?_)
  refine wpAny_bind (wpAny_setField_rec hz (by simp) fun h₁ hz₁ hs₁ => ?_)
  replace hz₁ : IsZip h₁ z TI TO .ellipsis := hz₁
  refine wpAny_bind ?_
  simp only [List.zipIdx_cons, List.zipIdx_nil, List.forIn_cons, List.forIn_nil]
  refine wpAny_bind (wpAny_bind (wpAny_onRaise ?_))
  show wpAny _ _ (Builtin.SmallTypes.nextOf (.ref i1) >>= _) _ _ _
  refine wpAny_bind (I1.fin _ _ _ _ hh (I1.but h1 hs₁.extBut D.z1) fun h₂ e hs₂ he => ?_)
  obtain ⟨oe, hoe, hce⟩ := he
  have hz₂ : IsZip h₂ z TI TO .ellipsis := hs₂ _ _ D.i1z.symm hz₁
  have hez : e ≠ z := fun x => by subst x; rw [hz₂] at hoe; cases hoe; simp at hce
  refine wpAny_setField_rec hz₂ (by simp) fun h₃ _ hs₃ => hE h₃ _ e (fun c o c1 _ c3 x => hs₃.extBut _ _ c1 (hs₂ _ _ c3 (hs₁.extBut _ _ c1 x))) ⟨oe, hs₃.extBut _ _ hez hoe, hce⟩
theorem walksH {n : Nat} (hh : A.handled = none) (I1 : ItAt prog w i1 f1 n P1 S1) (I2 : ItAt prog w i2 f2 n P2 S2) (I3 : ItAt prog w i3 f3 n P3 S3) (D : ZB z TI TO i1 i2 i3 f1 f2 f3) (ls : List Addr) (hf1 : ∀ b ∈ f1, b = i1 ∨ b ∈ ls) (hf2 : ∀ b ∈ f2, b = i2 ∨ b ∈ ls) (hf3 : ∀ b ∈ f3, b = i3 ∨ b ∈ ls) :
    WalksT prog w A z ([z, TI, TO, i1, i2, i3] ++ ls) [z, TO, i1, i2, i3] n
      (fun i vals => ∃ x y u, P1 i x ∧ P2 i y ∧ P3 i u ∧ vals = #[x, y, u])
      (fun i h => IsZip h z TI TO .none ∧ IsTri h TI (.ref i1) (.ref i2) (.ref i3) ∧ (∃ a b c, IsTri h TO a b c) ∧ S1 i h ∧ S2 i h ∧ S3 i h)
      (fun i T h => IsZip h z TI TO (rawInt T) ∧ IsTri h TI (.ref i1) (.ref i2) (.ref i3) ∧ (∃ a b c, IsTri h TO a b c) ∧ S1 (i + 1) h ∧ S2 (i + 1) h ∧ S3 (i + 1) h ∧ T ≠ z ∧ T ≠ TO ∧ T ≠ i1 ∧ T ≠ i2 ∧ T ≠ i3) where
  sub := fun c hc => by
    simp at hc
    rcases hc with rfl | rfl | rfl | rfl | rfl <;> simp
  frame := fun i h h' hst hk => by
    obtain ⟨hz, hTI, ⟨a, b, c, hTO⟩, h1, h2, h3⟩ := hst
    exact ⟨hk z (by simp) _ hz, hk TI (by simp) _ hTI, ⟨a, b, c, hk TO (by simp) _ hTO⟩, I1.keep _ _ _ h1 (fun b hb o e => hk b (by rcases hf1 b hb with rfl | hb <;> simp [*]) o e), I2.keep _ _ _ h2 (fun b hb o e => hk b (by rcases hf2 b hb with rfl | hb <;> simp [*]) o e), I3.keep _ _ _ h3 (fun b hb o e => hk b (by rcases hf3 b hb with rfl | hb <;> simp [*]) o e)⟩
  item := fun i s Q E hi hst hQ => by
    obtain ⟨hz, hTI, ⟨a, b, c, hTO⟩, h1, h2, h3⟩ := hst
    have hT : s.TypeIs (.ref z) "zip" := ⟨_, hz, rfl⟩
    have lt : ∀ {c o}, s.heap.get? c = some o → s.heap.objs.size ≠ c := fun e => Nat.ne_of_gt (Heap.lt_size e)
    unfold pyNext
    refine wpAny_bind (wpAny_attempt (wpAny_callSpecial?_slot (name := Str.ofString "__next__") hT PySem.F.slot_zip_next
      (wpAny_call_entry PySem.F.slot_zip_next hT PySem.F.entry_zip_next
        (zipH_item I1 I2 I3 D hz hTI hTO h1 h2 h3 hi hi hi fun h' tk x y u px py pu a1 a2 a3 a4 a5 a6 hk => wpAny_pure ?_) (PySem.F.args_zip_next_1 _))))
    exact hQ s.heap.objs.size #[x, y, u] h' tk ⟨x, y, u, px, py, pu, rfl⟩ (Nat.le_refl _) ⟨_, a6, rfl, _, rfl⟩
      ⟨a1, hk _ _ D.TIz D.TITO D.TIi1 D.TIi2 D.TIi3 hTI, ⟨_, _, _, a2⟩, a3, a4, a5, lt hz, lt hTO, (by obtain ⟨_, e⟩ := I1.has _ _ h1; exact lt e), (by obtain ⟨_, e⟩ := I2.has _ _ h2; exact lt e), (by obtain ⟨_, e⟩ := I3.has _ _ h3; exact lt e)⟩
      fun c o hc e => hk c o (fun x => hc (by simp [x])) (fun x => hc (by simp [x])) (fun x => hc (by simp [x])) (fun x => hc (by simp [x])) (fun x => hc (by simp [x])) e
  go := fun elts k pos i T s Q E hm hQ => by
    obtain ⟨hz, hTI, ⟨a, b, c, hTO⟩, h1, h2, h3, _⟩ := hm
    refine wpAny_letOwnedTupleGo_zip hz fun h' hz' hs' => hQ h' ⟨hz', hs'.extBut _ _ D.TIz hTI, ⟨a, b, c, hs'.extBut _ _ D.TOz hTO⟩, I1.but h1 hs'.extBut D.z1, I2.but h2 hs'.extBut D.z2, I3.but h3 hs'.extBut D.z3⟩ fun c o hc e => hs'.extBut _ _ (fun x => hc (by simp [x])) e
  apart := fun i T h hm hT => by
    obtain ⟨_, _, _, _, _, _, t1, t2, t3, t4, t5⟩ := hm
    simp at hT
    rcases hT with rfl | rfl | rfl | rfl | rfl
    · exact t1 rfl
    · exact t2 rfl
    · exact t3 rfl
    · exact t4 rfl
    · exact t5 rfl
  done := fun s Q E hst hQ => by
    obtain ⟨hz, hTI, ⟨a, b, c, hTO⟩, h1, h2, h3⟩ := hst
    have hT : s.TypeIs (.ref z) "zip" := ⟨_, hz, rfl⟩
    unfold pyNext
    refine wpAny_bind (wpAny_attempt (wpAny_callSpecial?_slot (name := Str.ofString "__next__") hT PySem.F.slot_zip_next
      (wpAny_call_entry PySem.F.slot_zip_next hT PySem.F.entry_zip_next (zipH_end hh I1 D hz hTI hTO h1 fun h' tk e hk he => ?_) (PySem.F.args_zip_next_1 _))))
    obtain ⟨o, ho, hc⟩ := he
    refine wpAny_bind (wpAny_isInstance (T := "StopIteration") (b := true) ⟨o, ho, hc⟩ isSubtype_stop ?_)
    exact wpAny_pure (hQ _ tk fun c o hc e => hk c o (fun x => hc (by simp [x])) (fun x => hc (by simp [x])) (fun x => hc (by simp [x])) e)
  self := fun i s Q E hst hQ => wpAny_pyIter_zip hst.1 hQ
end
end Mine
end
section
open PySem PySem.W PyProof.Rows PyProof.V PySem.Calls
set_option Elab.async false
set_option maxRecDepth 100000
namespace Mine
section
variable {prog : Program} {w : World} {A : Around} {E : Value → Shared → Prop} {s : Shared} {env : Env} {h₀ : Heap} {target : PySem.Expr} {body : List Stmt} {Q : Flow → Shared → Prop}
/-- the turns of a for by induction on their number, whatever the items are -/
theorem turns_ind {I : Addr} {fp wr : List Addr} {n : Nat} {P Md : Nat → Value → Heap → Prop} {St : Nat → Heap → Prop} {ws : List (Addr × String)} {keep : List (Addr × Obj)} {m₀ : Str → Option Value} {news : List (Addr × Obj)} {hp : Heap} {tk0 : Nat}
    (W : KTurns prog w A target I fp wr n P Md St) (hobj : ∀ i h, St i h → ∃ its, Objs ws its ∧ ∀ p ∈ its, h.get? p.1 = some p.2)
    (hws : ∀ b ∈ ws.map (·.1), b ∈ fp ∧ h₀.get? b = none) (hwr : ∀ b ∈ wr, b ∈ ws.map (·.1)) (hfp : ∀ b ∈ fp, b ∈ ws.map (·.1) ∨ ∃ o, (b, o) ∈ keep) (hL : env.locals ∉ fp) (hnw : ∀ p ∈ news, p.1 ∉ wr) (hst : St 0 hp)
    (F : Fr h₀ env.locals hp m₀) (N : News h₀ env.locals hp news) (hk : ∀ p ∈ keep, p ∈ news) (J : Nat → (Str → Option Value) → List (Addr × Obj) → Prop) (j0 : J 0 m₀ news)
    (step : ∀ i m news, i < n → J i m news → (∀ p ∈ keep, p ∈ news) → ∀ v h tk, P i v h → Fr h₀ env.locals h m → AllObj ws (fun its => News h₀ env.locals h (its ++ news) →
      wpAny (model prog w) A (assign target env v) (fun _ s₂ => wpAny (model prog w) A (execs body env) (UnrPostW h₀ env.locals { s with heap := h, toks := tk } its (fun m' n' => (∀ p ∈ keep, p ∈ n') ∧ J (i + 1) m' n') Q) E s₂) E { s with heap := h, toks := tk }))
    (fin : ∀ m news, J n m news → (∀ p ∈ keep, p ∈ news) → ∀ h tk, Fr h₀ env.locals h m → News h₀ env.locals h news → Q .next { s with heap := h, toks := tk }) :
    TurnsAt prog w A h₀ env target body Q E (.ref I) { s with heap := hp, toks := tk0 } := by
  refine ⟨I, fp, wr, n, P, Md, St, m₀, news, fun i m' n' => (∀ p ∈ keep, p ∈ n') ∧ J i m' n', rfl, W, hL, fun b hb => (hws b (hwr b hb)).2, hnw, hst, F, N, ⟨hk, j0⟩, ?_, ?_⟩
  · intro i v m₁ news₁ h₁ tk₁ own hin hPi hJ hoff hown hget hall hst₁ F₁ N₁
    obtain ⟨hk₁, hJ⟩ := hJ
    obtain ⟨its, hits, hval⟩ := hobj (i + 1) h₁ hst₁
    have hmap := hits.map
    have N₂ : News h₀ env.locals h₁ (its ++ news₁) := fun p hp => by
      rcases List.mem_append.mp hp with hp | hp
      · have h1 : p.1 ∈ ws.map (·.1) := by rw [← hmap]; exact List.mem_map.mpr ⟨p, hp, rfl⟩
        exact N₁ _ (List.mem_append_left _ (hall p.1 (hws _ h1).1 (hws _ h1).2 p.2 (hval p hp)))
      · exact N₁ _ (List.mem_append_right _ hp)
    have fin : ∀ s₃, UnrEndW h₀ env.locals { s with heap := h₁, toks := tk₁ } its (fun m' n' => (∀ p ∈ keep, p ∈ n') ∧ J (i + 1) m' n') s₃ →
        LoopStepU h₀ env.locals wr own (fun m' n' => (∀ p ∈ keep, p ∈ n') ∧ J (i + 1) m' n') { s with heap := h₁, toks := tk₁ } .next s₃ := by
      rintro s₃ ⟨h', tk, m', news', e, F', N', ho, hk', r⟩
      refine ⟨rfl, h', tk, m', news', e, F', ?_, ?_, hk', r⟩
      · rintro ⟨pa, po⟩ hp
        rcases List.mem_append.mp hp with hp | hp
        · have h2 : h₁.get? pa = some po := hget _ hp
          rcases hfp pa (hown _ hp) with h3 | ⟨o, h3⟩
          · have h4 : pa ∈ its.map (·.1) := by rw [hmap]; exact h3
            obtain ⟨⟨qa, qo⟩, hq, hqe⟩ := List.mem_map.mp h4
            have hqe' : qa = pa := hqe
            subst hqe'
            have h5 : h₁.get? qa = some qo := hval _ hq
            have h6 : qo = po := Option.some.inj (h5.symm.trans h2)
            subst h6
            exact N' _ (List.mem_append_left _ hq)
          · have h4 : h₁.get? pa = some o := (N₁ _ (List.mem_append_right _ (hk₁ _ h3))).1
            have h6 : o = po := Option.some.inj (h4.symm.trans h2)
            subst h6
            exact N' _ (List.mem_append_right _ (hk' _ h3))
        · exact N' _ (List.mem_append_right _ hp)
      · intro p hp hI
        have h4 : p.1 ∈ its.map (·.1) := by rw [hmap]; exact hwr _ hI
        obtain ⟨q, hq, hqe⟩ := List.mem_map.mp h4
        exact ho p hp q hq hqe.symm
    refine wpAny_mono ((step i m₁ news₁ hin hJ hk₁ v h₁ tk₁ hPi F₁).at hits N₂) (fun _ s₂ h₂ => wpAny_mono h₂ (fun f s₃ p => ?_) fun _ _ e => e) fun _ _ e => e
    cases f with
    | ret v => exact .ret p
    | brk => exact .brk p
    | next => exact .next (fin _ p)
    | cont => exact .cont (fin _ p)
  · intro h' tk m' news' F' N' _ hJ
    exact fin m' news' hJ.2 hJ.1 h' tk F' N'
end
end Mine
end
section
open PySem PySem.W PyProof.Rows PyProof.V PySem.Calls PyProof.Rows.LCg
set_option Elab.async false
set_option maxRecDepth 100000
set_option maxHeartbeats 2000000
namespace Mine
theorem typeCall_zip_3 (a b c : Value) : checkTypeCall "zip" ⟨[a, b, c], []⟩ = pure () := by kernel_rfl
theorem newCall_zip_3 (a b c : Value) : checkBuiltinCall "zip.__new__" ⟨[.type "zip", a, b, c], []⟩ = pure () := by kernel_rfl
theorem args_object_init_4 (a b c d : Value) : argsOk "object.__init__" ⟨[a, b, c, d], []⟩ := by
  unfold argsOk; rw [signature?_of (id := "object.__init__") (n := ['_', '_', 't', 'i', 'n', 'i', '_', '_']) (o := ['t', 'c', 'e', 'j', 'b', 'o']) (by kernel_rfl) PySem.F.owner_object]; kernel_rfl
abbrev lIt (l : Addr) : Obj := { cls := .type "list_iterator", data := .fields #[.ref l, .int 0 0] }
abbrev q2 (h : Heap) (a : Str) (t : Tok) (l : Addr) : Heap := (h.push (sIt a t)).push (lIt l)
abbrev q3 (h : Heap) (a : Str) (t : Tok) (l : Addr) (b : Str) (u : Tok) : Heap := (q2 h a t l).push (sIt b u)
abbrev q4 (h : Heap) (a : Str) (t : Tok) (l : Addr) (b : Str) (u : Tok) : Heap := (q3 h a t l b u).push { cls := .type "tuple", data := .seq #[.ref h.objs.size, .ref (h.push (sIt a t)).objs.size, .ref (q2 h a t l).objs.size] }
abbrev q5 (h : Heap) (a : Str) (t : Tok) (l : Addr) (b : Str) (u : Tok) : Heap := (q4 h a t l b u).push { cls := .type "tuple", data := .seq #[.none, .none, .none] }
abbrev q6 (h : Heap) (a : Str) (t : Tok) (l : Addr) (b : Str) (u : Tok) : Heap := (q5 h a t l b u).push { cls := .type "zip", data := .fields #[.none, .bool false, .bool false, .ref (q3 h a t l b u).objs.size, .ref (q4 h a t l b u).objs.size] }
theorem meets_zipH (a b : Str) (t u : Tok) (l : Addr) (xs : Array Value) (ha : a.cps.all (· < 128) = true) (hb : b.cps.all (· < 128) = true) :
    Meets (Builtin.«zip.__new__» ⟨[.type "zip", .str a t, .ref l, .str b u], []⟩) (fun _ R s => s.heap.IsList l xs ∧ R (.ok (.ret (.ref (q5 s.heap a t l b u).objs.size))) { s with heap := q6 s.heap a t l b u }) :=
  .of_wp fun prog w A R s h => by
    obtain ⟨hp, g, d, tk, os⟩ := s
    obtain ⟨hl, h⟩ := h
    have hsub := sub_zip
    have hL : Heap.IsList (Shared.heap ⟨hp.push (sIt a t), g, d, tk, os⟩) l xs := Heap.IsList.push hl _
    wp_walk using wpAny_pyIter_ascii ha, wpAny_pyIter_list hL, wpAny_pyIter_ascii hb
    exact ⟨_, rfl, h⟩
section
variable {prog : Program} {w : World} {A : Around} {E : Value → Shared → Prop} {s : Shared}
theorem call_zipH {a b : Str} {t u : Tok} {l : Addr} {xs : Array Value} {Q : Value → Shared → Prop} (ha : a.cps.all (· < 128) = true) (hb : b.cps.all (· < 128) = true) (hl : s.heap.IsList l xs)
    (h : ∀ h', IsZip h' (s.heap.objs.size + 5) (s.heap.objs.size + 3) (s.heap.objs.size + 4) .none → IsTri h' (s.heap.objs.size + 3) (.ref s.heap.objs.size) (.ref (s.heap.objs.size + 1)) (.ref (s.heap.objs.size + 2)) →
      IsTri h' (s.heap.objs.size + 4) .none .none .none → h'.IsStrIter s.heap.objs.size "str_ascii_iterator" a t 0 → h'.IsListIter (s.heap.objs.size + 1) l 0 → h'.IsStrIter (s.heap.objs.size + 2) "str_ascii_iterator" b u 0 →
      (∀ c o, s.heap.get? c = some o → h'.get? c = some o) → Q (.ref (s.heap.objs.size + 5)) { s with heap := h' }) :
    wpAny (model prog w) A (call (.type "zip") [.str a t, .ref l, .str b u]) Q E s := by
  refine callType_new PySem.F.called_zip (by decide) (typeCall_zip_3 _ _ _) (newCall_zip_3 _ _ _) (fun obj => args_object_init_4 obj _ _ _) PySem.F.entry_zip_new
    (meets_zipH a b t u l xs ha hb) ⟨hl, ?_⟩
  have z1 : (s.heap.push (sIt a t)).objs.size = s.heap.objs.size + 1 := Heap.size_push ..
  have z2 : (q2 s.heap a t l).objs.size = s.heap.objs.size + 2 := by rw [Heap.size_push, z1]
  have z3 : (q3 s.heap a t l b u).objs.size = s.heap.objs.size + 3 := by rw [Heap.size_push, z2]
  have z4 : (q4 s.heap a t l b u).objs.size = s.heap.objs.size + 4 := by rw [Heap.size_push, z3]
  have z5 : (q5 s.heap a t l b u).objs.size = s.heap.objs.size + 5 := by rw [Heap.size_push, z4]
  have g6 : (q6 s.heap a t l b u).get? (q5 s.heap a t l b u).objs.size = some _ := Heap.get?_push_size _ rfl
  have g5 : (q6 s.heap a t l b u).get? (q4 s.heap a t l b u).objs.size = some _ := Heap.get?_push_of_some _ (Heap.get?_push_size _ rfl)
  have g4 : (q6 s.heap a t l b u).get? (q3 s.heap a t l b u).objs.size = some _ := Heap.get?_push_of_some _ (Heap.get?_push_of_some _ (Heap.get?_push_size _ rfl))
  have g3 : (q6 s.heap a t l b u).get? (q2 s.heap a t l).objs.size = some _ := Heap.get?_push_of_some _ (Heap.get?_push_of_some _ (Heap.get?_push_of_some _ (Heap.get?_push_size _ rfl)))
  have g2 : (q6 s.heap a t l b u).get? (s.heap.push (sIt a t)).objs.size = some _ := Heap.get?_push_of_some _ (Heap.get?_push_of_some _ (Heap.get?_push_of_some _ (Heap.get?_push_of_some _ (Heap.get?_push_size _ rfl))))
  have g1 : (q6 s.heap a t l b u).get? s.heap.objs.size = some _ := Heap.get?_push_of_some _ (Heap.get?_push_of_some _ (Heap.get?_push_of_some _ (Heap.get?_push_of_some _ (Heap.get?_push_of_some _ (Heap.get?_push_size _ rfl)))))
  show _ ∧ _
  rw [z3, z4, z5] at g6
  rw [z4] at g5
  rw [z1, z2, z3] at g4
  rw [z2] at g3
  rw [z1] at g2
  rw [z5]
  exact ⟨⟨_, g6, rfl⟩, h _ g6 g4 g5 ⟨_, g1, rfl, rfl⟩ ⟨_, g2, rfl, rfl⟩ ⟨_, g3, rfl, rfl⟩ fun c o x =>
    Heap.get?_push_of_some _ (Heap.get?_push_of_some _ (Heap.get?_push_of_some _ (Heap.get?_push_of_some _ (Heap.get?_push_of_some _ (Heap.get?_push_of_some _ x)))))⟩
theorem zbNew {n l : Nat} (h : l < n) : ZB (n + 5) (n + 3) (n + 4) n (n + 1) (n + 2) [n] [n + 1, l] [n + 2] := by
  constructor <;> (try simp only [List.mem_cons, List.not_mem_nil, or_false, not_or]) <;> (try constructor) <;> (intro (e : (_ : Nat) = _); omega)
end
end Mine
end
section
open PySem PySem.W PyProof.Rows PyProof.V PySem.Calls PyProof.Rows.LCg
set_option Elab.async false
set_option maxRecDepth 100000
set_option maxHeartbeats 2000000
namespace Mine
section
variable {prog : Program} {w : World} {A : Around} {E : Value → Shared → Prop} {s : Shared} {env : Env} {h₀ : Heap} {body : List Stmt} {Q : Flow → Shared → Prop}
theorem turns_zipSS {elts : List PySem.Expr} {k : Nat} {pos : Pos} {a b : Str} {t u : Tok} {n : Nat} {m₀ : Str → Option Value} {news : List (Addr × Obj)}
    (hh : A.handled = none) (ha : a.cps.all (· < 128) = true) (hb : b.cps.all (· < 128) = true) (hn : min a.cps.size b.cps.size = n) (F : Fr h₀ env.locals s.heap m₀) (N : News h₀ env.locals s.heap news)
    (J : Nat → (Str → Option Value) → List (Addr × Obj) → Prop) (j0 : J 0 m₀ news)
    (step : ∀ I : Addr, (∀ p ∈ news, p.1 < I) → ∀ i m news c d, i < n → a.cps[i]? = some c → b.cps[i]? = some d → J i m news → ∀ T t u h tk, IsTup h T #[.str ⟨#[c]⟩ t, .str ⟨#[d]⟩ u] → Fr h₀ env.locals h m →
      AllObj [(I + 4, "zip"), (I + 2, "tuple"), (I + 3, "tuple"), (I, "str_ascii_iterator"), (I + 1, "str_ascii_iterator")] (fun its => News h₀ env.locals h (its ++ news) →
      wpAny (model prog w) A (assign (.Tuple elts k pos) env (.ref T)) (fun _ s₂ => wpAny (model prog w) A (execs body env) (UnrPostW h₀ env.locals { s with heap := h, toks := tk } its (fun m' n' => (∀ p ∈ ([] : List (Addr × Obj)), p ∈ n') ∧ J (i + 1) m' n') Q) E s₂) E { s with heap := h, toks := tk }))
    (fin : ∀ m news, J n m news → ∀ h tk, Fr h₀ env.locals h m → News h₀ env.locals h news → Q .next { s with heap := h, toks := tk }) :
    wpAny (model prog w) A (call (.type "zip") [.str a t, .str b u]) (fun xv s₁ => wpAny (model prog w) A (pyIter xv) (fun it s₂ => TurnsAt prog w A h₀ env (.Tuple elts k pos) body Q E it s₂) E s₁) E s := by
  have hLs : env.locals < s.heap.objs.size := F.ns.lt
  refine call_zipS ha hb fun h' hz hTI hTO hi1 hi2 _ hk => ?_
  refine wpAny_pyIter_zip hz ?_
  have W := walksZ (prog := prog) (w := w) hh (ItAt.str (prog := prog) (w := w) s.heap.objs.size a t) (ItAt.str (prog := prog) (w := w) (s.heap.objs.size + 1) b u) (zaNew s.heap.objs.size) [] (fun c hc => .inl (List.mem_singleton.mp hc)) (fun c hc => .inl (List.mem_singleton.mp hc))
  rw [hn] at W
  refine turns_ind (tk0 := s.toks) (keep := []) (ws := [(s.heap.objs.size + 4, "zip"), (s.heap.objs.size + 2, "tuple"), (s.heap.objs.size + 3, "tuple"), (s.heap.objs.size, "str_ascii_iterator"), (s.heap.objs.size + 1, "str_ascii_iterator")]) (KTurns.ofWalksU W.toU) ?_ ?_ ?_ ?_ ?_ ?_ ?_ (F.keeps hk) (N.grown hk) (fun p hp => nomatch hp) J j0 ?_ (fun m news j _ => fin m news j)
  · rintro i h ⟨hz, hTI, ⟨x, y, hTO⟩, ⟨o1, ho1, hc1, _⟩, ⟨o2, ho2, hc2, _⟩⟩
    have e1 : ∃ o : Obj, h.get? (s.heap.objs.size + 4) = some o ∧ o.cls = .type "zip" := ⟨_, hz, rfl⟩
    have e2 : ∃ o : Obj, h.get? (s.heap.objs.size + 2) = some o ∧ o.cls = .type "tuple" := ⟨_, hTI, rfl⟩
    have e3 : ∃ o : Obj, h.get? (s.heap.objs.size + 3) = some o ∧ o.cls = .type "tuple" := ⟨_, hTO, rfl⟩
    obtain ⟨r1, g1, k1⟩ := e1
    obtain ⟨r2, g2, k2⟩ := e2
    obtain ⟨r3, g3, k3⟩ := e3
    refine ⟨[(s.heap.objs.size + 4, r1), (s.heap.objs.size + 2, r2), (s.heap.objs.size + 3, r3), (s.heap.objs.size, o1), (s.heap.objs.size + 1, o2)], ⟨⟨rfl, k1⟩, ⟨rfl, k2⟩, ⟨rfl, k3⟩, ⟨rfl, hc1⟩, ⟨rfl, hc2⟩, trivial⟩, fun p hp => ?_⟩
    rcases List.mem_cons.mp hp with rfl | hp
    · exact g1
    rcases List.mem_cons.mp hp with rfl | hp
    · exact g2
    rcases List.mem_cons.mp hp with rfl | hp
    · exact g3
    rcases List.mem_cons.mp hp with rfl | hp
    · exact ho1
    rw [List.mem_singleton.mp hp]
    exact ho2
  · intro b hb
    simp only [List.map_cons, List.map_nil, List.mem_cons, List.not_mem_nil, or_false] at hb
    refine ⟨?_, ?_⟩
    · rcases hb with rfl | rfl | rfl | rfl | rfl <;> simp
    · rcases hb with rfl | rfl | rfl | rfl | rfl
      · exact ktu_new F (Nat.le_add_right _ _)
      · exact ktu_new F (Nat.le_add_right _ _)
      · exact ktu_new F (Nat.le_add_right _ _)
      · exact ktu_new F (Nat.le_refl _)
      · exact ktu_new F (Nat.le_add_right _ _)
  · intro b hb
    simp only [List.mem_cons, List.not_mem_nil, or_false] at hb
    rcases hb with rfl | rfl | rfl | rfl <;> simp
  · intro b hb
    simp only [List.mem_append, List.mem_cons, List.not_mem_nil, or_false] at hb
    rcases hb with rfl | rfl | rfl | rfl | rfl <;> exact .inl (by simp)
  · intro hb
    simp only [List.mem_append, List.mem_cons, List.not_mem_nil, or_false] at hb
    rcases hb with h | h | h | h | h
    · exact Nat.not_lt.mpr (Nat.le_add_right _ _) (h ▸ hLs)
    · exact Nat.not_lt.mpr (Nat.le_add_right _ _) (h ▸ hLs)
    · exact Nat.not_lt.mpr (Nat.le_add_right _ _) (h ▸ hLs)
    · exact Nat.lt_irrefl _ (h ▸ hLs)
    · exact Nat.not_lt.mpr (Nat.le_add_right _ _) (h ▸ hLs)
  · intro p hp hb
    simp only [List.mem_cons, List.not_mem_nil, or_false] at hb
    have hlt := Heap.lt_size (N p hp).1
    rcases hb with h | h | h | h
    · exact Nat.not_lt.mpr (Nat.le_add_right _ _) (h ▸ hlt)
    · exact Nat.not_lt.mpr (Nat.le_add_right _ _) (h ▸ hlt)
    · exact Nat.lt_irrefl _ (h ▸ hlt)
    · exact Nat.not_lt.mpr (Nat.le_add_right _ _) (h ▸ hlt)
  · exact ⟨hz, hTI, ⟨_, _, hTO⟩, hi1, hi2⟩
  · rintro i m news' hi j _ v h tk ⟨T, vals, rfl, ⟨x, y, ⟨c, u1, hx, rfl⟩, ⟨d, u2, hy, rfl⟩, rfl⟩, hT⟩ F'
    exact step s.heap.objs.size (fun p hp => Heap.lt_size (N p hp).1) i m news' c d hi hx hy j T u1 u2 h tk hT F'
end
end Mine
end
section
open PySem PySem.W PyProof.Rows PyProof.V PySem.Calls PyProof.Rows.LCg
set_option Elab.async false
set_option maxRecDepth 100000
set_option maxHeartbeats 2000000
namespace Mine
section
variable {prog : Program} {w : World} {A : Around} {E : Value → Shared → Prop} {s : Shared}
variable {env : Env} {h₀ : Heap} {body : List Stmt} {Q : Flow → Shared → Prop}
theorem turnsH {elts : List PySem.Expr} {k : Nat} {pos : Pos} {a b : Str} {t u : Tok} {l : Addr} {lo : Obj} {xs : List Value} {n nl : Nat} {m₀ : Str → Option Value} {news : List (Addr × Obj)}
    (hh : A.handled = none) (ha : a.cps.all (· < 128) = true) (hb : b.cps.all (· < 128) = true) (na : a.cps.size = n) (nb : b.cps.size = n) (nx : xs.length = n) (F : Fr h₀ env.locals s.heap m₀) (N : News h₀ env.locals s.heap news) (hm : (l, lo) ∈ news) (hc : lo.cls = .type "list") (hd : lo.data = .seq xs.toArray nl)
    (J : Addr → Nat → (Str → Option Value) → List (Addr × Obj) → Prop) (j0 : ∀ I : Addr, (∀ p ∈ news, p.1 < I) → J I 0 m₀ news)
    (step : ∀ I : Addr, (∀ p ∈ news, p.1 < I) → ∀ i m news c d v, i < n → a.cps[i]? = some c → b.cps[i]? = some d → xs[i]? = some v → J I i m news → (∀ p ∈ [(l, lo)], p ∈ news) → ∀ T t u h tk, IsTup h T #[.str ⟨#[c]⟩ t, v, .str ⟨#[d]⟩ u] → Fr h₀ env.locals h m →
      AllObj [(I + 5, "zip"), (I + 3, "tuple"), (I + 4, "tuple"), (I, "str_ascii_iterator"), (I + 1, "list_iterator"), (I + 2, "str_ascii_iterator")] (fun its => News h₀ env.locals h (its ++ news) →
      wpAny (model prog w) A (assign (.Tuple elts k pos) env (.ref T)) (fun _ s₂ => wpAny (model prog w) A (execs body env) (UnrPostW h₀ env.locals { s with heap := h, toks := tk } its (fun m' n' => (∀ p ∈ [(l, lo)], p ∈ n') ∧ J I (i + 1) m' n') Q) E s₂) E { s with heap := h, toks := tk }))
    (fin : ∀ I m news, J I n m news → (∀ p ∈ [(l, lo)], p ∈ news) → ∀ h tk, Fr h₀ env.locals h m → News h₀ env.locals h news → Q .next { s with heap := h, toks := tk }) :
    wpAny (model prog w) A (call (.type "zip") [.str a t, .ref l, .str b u]) (fun xv s₁ => wpAny (model prog w) A (pyIter xv) (fun it s₂ => TurnsAt prog w A h₀ env (.Tuple elts k pos) body Q E it s₂) E s₁) E s := by
  have hax := N _ hm
  have hl : s.heap.IsList l xs.toArray := ⟨lo, hax.1, hc, nl, hd⟩
  have hlt : l < s.heap.objs.size := Heap.lt_size hax.1
  have hLs : env.locals < s.heap.objs.size := F.ns.lt
  refine call_zipH ha hb hl fun h' hz hTI hTO hi1 hi2 hi3 hk => ?_
  refine wpAny_pyIter_zip hz ?_
  have I1 : ItAt prog w s.heap.objs.size [s.heap.objs.size] n (SignAt a) (fun k h => h.IsStrIter s.heap.objs.size "str_ascii_iterator" a t k) := by
    rw [← na]
    exact ItAt.str _ _ _
  have I3 : ItAt prog w (s.heap.objs.size + 2) [s.heap.objs.size + 2] n (SignAt b) (fun k h => h.IsStrIter (s.heap.objs.size + 2) "str_ascii_iterator" b u k) := by
    rw [← nb]
    exact ItAt.str _ _ _
  have I2 : ItAt prog w (s.heap.objs.size + 1) [s.heap.objs.size + 1, l] n (fun k v => xs.toArray[k]? = some v) (fun k h => h.IsListIter (s.heap.objs.size + 1) l k ∧ h.IsList l xs.toArray) := by
    rw [← nx]
    exact ItAt.list _ _ xs.toArray (ktu_ne 1 hlt)
  have W := walksH hh I1 I2 I3 (zbNew hlt) [l] (fun c hc => .inl (List.mem_singleton.mp hc)) (fun c hc => by simpa using hc) (fun c hc => .inl (List.mem_singleton.mp hc))
  refine turns_ind (tk0 := s.toks) (keep := [(l, lo)]) (ws := [(s.heap.objs.size + 5, "zip"), (s.heap.objs.size + 3, "tuple"), (s.heap.objs.size + 4, "tuple"), (s.heap.objs.size, "str_ascii_iterator"), (s.heap.objs.size + 1, "list_iterator"), (s.heap.objs.size + 2, "str_ascii_iterator")]) (KTurns.ofWalksU W.toU) ?_ ?_ ?_ ?_ ?_ ?_ ?_ (F.keeps hk) (N.grown hk) (fun p hp => by rw [List.mem_singleton.mp hp]; exact hm) (J s.heap.objs.size) (j0 _ fun p hp => Heap.lt_size (N p hp).1) ?_ (fin _)
  · rintro i h ⟨hz, hTI, ⟨x, y, v, hTO⟩, ⟨o1, ho1, hc1, _⟩, ⟨⟨o2, ho2, hc2, _⟩, _⟩, ⟨o3, ho3, hc3, _⟩⟩
    have e1 : ∃ o : Obj, h.get? (s.heap.objs.size + 5) = some o ∧ o.cls = .type "zip" := ⟨_, hz, rfl⟩
    have e2 : ∃ o : Obj, h.get? (s.heap.objs.size + 3) = some o ∧ o.cls = .type "tuple" := ⟨_, hTI, rfl⟩
    have e3 : ∃ o : Obj, h.get? (s.heap.objs.size + 4) = some o ∧ o.cls = .type "tuple" := ⟨_, hTO, rfl⟩
    obtain ⟨r1, g1, k1⟩ := e1
    obtain ⟨r2, g2, k2⟩ := e2
    obtain ⟨r3, g3, k3⟩ := e3
    refine ⟨[(s.heap.objs.size + 5, r1), (s.heap.objs.size + 3, r2), (s.heap.objs.size + 4, r3), (s.heap.objs.size, o1), (s.heap.objs.size + 1, o2), (s.heap.objs.size + 2, o3)], ⟨⟨rfl, k1⟩, ⟨rfl, k2⟩, ⟨rfl, k3⟩, ⟨rfl, hc1⟩, ⟨rfl, hc2⟩, ⟨rfl, hc3⟩, trivial⟩, fun p hp => ?_⟩
    rcases List.mem_cons.mp hp with rfl | hp
    · exact g1
    rcases List.mem_cons.mp hp with rfl | hp
    · exact g2
    rcases List.mem_cons.mp hp with rfl | hp
    · exact g3
    rcases List.mem_cons.mp hp with rfl | hp
    · exact ho1
    rcases List.mem_cons.mp hp with rfl | hp
    · exact ho2
    rw [List.mem_singleton.mp hp]
    exact ho3
  · intro b hb
    simp only [List.map_cons, List.map_nil, List.mem_cons, List.not_mem_nil, or_false] at hb
    refine ⟨?_, ?_⟩
    · rcases hb with rfl | rfl | rfl | rfl | rfl | rfl <;> simp
    · rcases hb with rfl | rfl | rfl | rfl | rfl | rfl
      · exact ktu_new F (Nat.le_add_right _ _)
      · exact ktu_new F (Nat.le_add_right _ _)
      · exact ktu_new F (Nat.le_add_right _ _)
      · exact ktu_new F (Nat.le_refl _)
      · exact ktu_new F (Nat.le_add_right _ _)
      · exact ktu_new F (Nat.le_add_right _ _)
  · intro b hb
    simp only [List.mem_cons, List.not_mem_nil, or_false] at hb
    rcases hb with rfl | rfl | rfl | rfl | rfl <;> simp
  · intro b hb
    simp only [List.mem_append, List.mem_cons, List.not_mem_nil, or_false] at hb
    rcases hb with (rfl | rfl | rfl | rfl | rfl | rfl) | rfl
    · exact .inl (by simp)
    · exact .inl (by simp)
    · exact .inl (by simp)
    · exact .inl (by simp)
    · exact .inl (by simp)
    · exact .inl (by simp)
    · exact .inr ⟨lo, .head _⟩
  · intro hb
    simp only [List.mem_append, List.mem_cons, List.not_mem_nil, or_false] at hb
    rcases hb with (h | h | h | h | h | h) | h
    · exact Nat.not_lt.mpr (Nat.le_add_right _ _) (h ▸ hLs)
    · exact Nat.not_lt.mpr (Nat.le_add_right _ _) (h ▸ hLs)
    · exact Nat.not_lt.mpr (Nat.le_add_right _ _) (h ▸ hLs)
    · exact Nat.lt_irrefl _ (h ▸ hLs)
    · exact Nat.not_lt.mpr (Nat.le_add_right _ _) (h ▸ hLs)
    · exact Nat.not_lt.mpr (Nat.le_add_right _ _) (h ▸ hLs)
    · exact hax.2.1 h.symm
  · intro p hp hb
    simp only [List.mem_cons, List.not_mem_nil, or_false] at hb
    have hlt := Heap.lt_size (N p hp).1
    rcases hb with h | h | h | h | h
    · exact Nat.not_lt.mpr (Nat.le_add_right _ _) (h ▸ hlt)
    · exact Nat.not_lt.mpr (Nat.le_add_right _ _) (h ▸ hlt)
    · exact Nat.lt_irrefl _ (h ▸ hlt)
    · exact Nat.not_lt.mpr (Nat.le_add_right _ _) (h ▸ hlt)
    · exact Nat.not_lt.mpr (Nat.le_add_right _ _) (h ▸ hlt)
  · exact ⟨hz, hTI, ⟨_, _, _, hTO⟩, hi1, ⟨hi2, ⟨lo, hk _ _ hax.1, hc, nl, hd⟩⟩, hi3⟩
  · rintro i m news' hi j hkp v h tk ⟨T, vals, rfl, ⟨x, y, z, ⟨c, u1, hx, rfl⟩, hy, ⟨d, u2, hz, rfl⟩, rfl⟩, hT⟩ F'
    exact step s.heap.objs.size (fun p hp => Heap.lt_size (N p hp).1) i m news' c d y hi hx hz (by simpa using hy) j hkp T u1 u2 h tk hT F'
end
end Mine
end
section
open PySem PySem.W PyProof.Rows
set_option Elab.async false
set_option maxRecDepth 100000
namespace Mine
theorem addNe (n : Nat) {a b : Nat} (h : a ≠ b) : n + a ≠ n + b := by omega
theorem updF_mk {d : Addr} {o : Obj} {pre post : List (Addr × Obj)} (a : ∀ p ∈ pre, p.1 ≠ d) (c : ∀ p ∈ post, p.1 ≠ d) : UpdF d o (pre ++ (d, o) :: post) (fun o' => pre ++ (d, o') :: post) := by
  induction pre with
  | nil => exact .head c
  | cons p r ih => exact .tail (a p (.head _)) (ih fun q hq => a q (.tail _ hq))
theorem offCell {h₀ h : Heap} {L a : Addr} {o : Obj} {v : Option Value} {news : List (Addr × Obj)} (N : News h₀ L h news) (ho : (a, o) ∈ news) (hd : o.data = .cell v) {p : Addr × Obj} (hp : p ∈ news) (hn : ∀ v, p.2.data ≠ .cell v) : p.1 ≠ a := by
  intro e
  have z := (N p hp).1
  rw [e, (N _ ho).1] at z
  rw [← Option.some.inj z] at hn
  exact hn v hd
theorem updCell {h₀ h : Heap} {L : Addr} {pre post : List (Addr × Obj)} {a : Addr} {o : Obj} {v : Option Value} (N : News h₀ L h (pre ++ (a, o) :: post)) (hd : o.data = .cell v) (h1 : ∀ p ∈ pre, p.1 ≠ a) (h2 : ∀ p ∈ post, p.1 ≠ a ∨ ∀ v, p.2.data ≠ .cell v) : UpdF a o (pre ++ (a, o) :: post) (fun o' => pre ++ (a, o') :: post) := by
  refine updF_mk h1 fun p hp => ?_
  rcases h2 p hp with h | h
  · exact h
  · exact offCell N (List.mem_append.mpr (.inr (.head _))) hd (List.mem_append.mpr (.inr (.tail _ hp))) h
theorem ltAdd {a L : Nat} (h : a < L) (k : Nat) : a ≠ L + k := by omega
end Mine
end
section
open PySem PySem.W PyProof.Rows
set_option Elab.async false
set_option maxRecDepth 100000
namespace Mine
theorem endZ {h₀ h' : Heap} {L : Addr} {its all : List (Addr × Obj)} {rest : (Str → Option Value) → List (Addr × Obj) → Prop} {s₁ : Shared} {tk : Nat} {m' : Str → Option Value} (F : Fr h₀ L h' m') (N : News h₀ L h' all) (news' : List (Addr × Obj)) (sub : ∀ p ∈ its ++ news', p ∈ all) (off : ∀ p ∈ news', ∀ q ∈ its, p.1 ≠ q.1) (r : rest m' news') : UnrEndW h₀ L s₁ its rest { s₁ with heap := h', toks := tk } :=
  ⟨h', tk, m', news', rfl, F, fun p hp => N p (sub p hp), off, r⟩
end Mine
end
section
open PySem PySem.W PyProof.Rows PyProof.V PySem.Calls
set_option Elab.async false
set_option maxRecDepth 100000
namespace Mine
section
variable {prog : Program} {w : World} {A : Around} {E : Value → Shared → Prop} {s : Shared} {env : Env} {h₀ : Heap} {body : List Stmt} {Q : Flow → Shared → Prop}
end
end Mine
end
section
open PySem PySem.W PyProof.Rows PyProof.V PySem.Calls
set_option Elab.async false
set_option maxRecDepth 100000
namespace Mine
section
variable {prog : Program} {w : World} {A : Around} {E : Value → Shared → Prop} {s : Shared} {env : Env} {h₀ : Heap} {body : List Stmt} {Q : Flow → Shared → Prop}
def strItms (x : Str) : List Itm := x.cps.toList.map fun c => .tok fun t => .str ⟨#[c]⟩ t
theorem iter_strTurns {y : Str} {py : Pos} {x : Str} {t₀ : Tok} {m₀ : Str → Option Value} {news : List (Addr × Obj)}
    (hh : A.handled = none) (ha : x.cps.all (· < 128) = true) (F : Fr h₀ env.locals s.heap m₀) (N : News h₀ env.locals s.heap news)
    (rest₀ : ∀ I : Addr, (∀ p ∈ news, p.1 < I) → ItemsRest prog w A E h₀ env (.Name y py) body Q s [(I, "str_ascii_iterator")] [] (strItms x) m₀ news) :
    wpAny (model prog w) A (pyIter (.str x t₀)) (fun it s₂ => TurnsAt prog w A h₀ env (.Name y py) body Q E it s₂) E s := by
  refine wpAny_pyIter_ascii ha ?_
  have hl : x.cps.size = (strItms x).length := by simp [strItms]
  refine ktu_core (tk0 := s.toks) (keep := []) (KTurns.ofWalks (Walks.strAscii hh s.heap.objs.size x t₀) fun i v s Q E st q => wpAny_pure q) hl (fun i v h hp => ?_) (fun i h st => ?_) (fun b hb => ?_) (fun b hb => by simpa using hb) (fun b hb => ?_) ?_ (fun p hp hI => ?_) ?_ (F.push _) (fun p hp => ⟨Heap.get?_push_of_some _ (N p hp).1, (N p hp).2⟩) trivial (rest₀ _ fun p hp => Heap.lt_size (N p hp).1)
  · obtain ⟨c, u, hc, rfl⟩ := hp
    exact ⟨.tok fun t => .str ⟨#[c]⟩ t, by simp [strItms, hc], u, rfl⟩
  · obtain ⟨o, ho, hc, _⟩ := st
    exact ⟨[(s.heap.objs.size, o)], ⟨⟨rfl, hc⟩, trivial⟩, fun p hp => by rw [List.mem_singleton.mp hp]; exact ho⟩
  · have hb' : b = s.heap.objs.size := by simpa using hb
    rw [hb']
    exact ⟨List.mem_cons_self .., next_is_new F⟩
  · have hb' : b = s.heap.objs.size := by simpa using hb
    exact .inl (by simp [hb'])
  · intro hI
    rcases List.mem_cons.mp hI with e | hI
    · exact absurd F.ns.lt (e ▸ Nat.lt_irrefl _)
    · cases hI
  · exact absurd (Heap.lt_size (N p hp).1) ((List.mem_singleton.mp hI) ▸ Nat.lt_irrefl _)
  · exact ⟨_, Heap.get?_push_size _ rfl, rfl, rfl⟩
theorem strRest_ind {target : PySem.Expr} {ws : List (Addr × String)} {x : Str} (J : Nat → (Str → Option Value) → List (Addr × Obj) → Prop)
    (step : ∀ i m news c, x.cps.toList[i]? = some c → J i m news → ∀ t h tk, Fr h₀ env.locals h m → AllObj ws (fun its => News h₀ env.locals h (its ++ news) →
      wpAny (model prog w) A (assign target env (.str ⟨#[c]⟩ t)) (fun _ s₂ => wpAny (model prog w) A (execs body env) (UnrPostW h₀ env.locals { s with heap := h, toks := tk } its (fun m' n' => J (i + 1) m' n') Q) E s₂) E { s with heap := h, toks := tk }))
    (fin : ∀ m news, J x.cps.toList.length m news → ∀ h tk, Fr h₀ env.locals h m → News h₀ env.locals h news → Q .next { s with heap := h, toks := tk }) :
    ∀ k i m news, k + i = x.cps.toList.length → J i m news → ItemsRest prog w A E h₀ env target body Q s ws [] ((strItms x).drop i) m news
  | 0, i, m, news, e, j => by
    have hi : i = x.cps.toList.length := by omega
    subst hi
    rw [show (strItms x).drop x.cps.toList.length = [] from List.drop_eq_nil_of_le (by simp [strItms])]
    exact ItemsRest.zero (fin m news j)
  | k + 1, i, m, news, e, j => by
    have hlt : i < x.cps.toList.length := by omega
    have hd : (strItms x).drop i = (.tok fun t => .str ⟨#[x.cps.toList[i]]⟩ t) :: (strItms x).drop (i + 1) := by
      rw [List.drop_eq_getElem_cons (by simpa [strItms] using hlt)]
      simp [strItms]
    rw [hd]
    refine ItemsRest.tok fun t h tk F => AllObj.mono (step i m news _ (List.getElem?_eq_getElem hlt) j t h tk F) fun its g N => ?_
    refine wpAny_mono (g N) (fun _ s₂ q => wpAny_mono q (fun f s' p => ?_) fun _ _ e => e) fun _ _ e => e
    exact UnrPostW.mono p fun m' n' q => ⟨trivial, strRest_ind J step fin k (i + 1) m' n' (by omega) q⟩
end
end Mine
end
section
open PySem PySem.W PyProof.Rows PySem.StrLaws PySem.Builtin PySem.Builtin.Str
set_option Elab.async false
set_option maxRecDepth 100000
namespace Mine
theorem at_one {x : Str} {c k : Nat} : At x ⟨#[c]⟩ x.length k ↔ x.cps.toList[k]? = some c := by
  have hl : x.length = x.cps.toList.length := by simp [Str.length]
  unfold At
  rw [subAt_eq]
  have e1 : (⟨#[c]⟩ : Str).length = 1 := rfl
  have e2 : (⟨#[c]⟩ : Str).cps.toList = [c] := rfl
  rw [e1, e2, hl]
  constructor
  · rintro ⟨h1, h2⟩
    have h2 := eq_of_beq h2
    rw [List.drop_eq_getElem_cons (by omega)] at h2
    simp at h2
    rw [List.getElem?_eq_getElem (by omega)]
    simpa using h2
  · intro h
    obtain ⟨h1, h2⟩ := List.getElem?_eq_some_iff.mp h
    refine ⟨h1, ?_⟩
    rw [List.drop_eq_getElem_cons h1, h2]
    simp
def sub1 (c : Nat) (z : List Nat) (l : List Nat) : List Nat := l.flatMap fun d => if d = c then z else [d]
theorem sub1_none {c : Nat} {z : List Nat} : ∀ {l : List Nat}, (∀ d ∈ l, d ≠ c) → sub1 c z l = l
  | [], _ => rfl
  | d :: r, h => by
    have ih := sub1_none (z := z) (l := r) fun e he => h e (.tail _ he)
    unfold sub1 at ih ⊢
    rw [List.flatMap_cons, if_neg (h d (.head _)), ih]
    rfl
theorem join_parts (x z : Str) (c : Nat) : ∀ (cuts : List Nat) (a f : Nat), ChainG x ⟨#[c]⟩ x.length a cuts f → (∀ k, f ≤ k → ¬ At x ⟨#[c]⟩ x.length k) → (Str.join z (partsFrom x 1 a cuts)).cps.toList = sub1 c z.cps.toList (x.cps.toList.drop a)
  | [], a, f, h, hn => by
    have e : f = a := h
    subst e
    show (strSub x f x.length).cps.toList = _
    rw [strSub_toList, sub1_none]
    · exact List.take_of_length_le (by simp [Str.length])
    · intro d hd e
      obtain ⟨i, hi⟩ := List.mem_iff_getElem?.mp hd
      rw [List.getElem?_drop] at hi
      exact hn (f + i) (by omega) (at_one.mpr (by rw [hi, e]))
  | k :: r, a, f, h, hn => by
    obtain ⟨h1, h2, h3, h4⟩ := h
    have h2' := at_one.mp h2
    have ih := join_parts x z c r (k + 1) f h4 hn
    obtain ⟨p, r', hp⟩ := partsFrom_ne x 1 (k + 1) r
    show (Str.join z (strSub x a k :: partsFrom x 1 (k + 1) r)).cps.toList = _
    rw [hp] at ih ⊢
    show (strSub x a k ++ z ++ Str.join z (p :: r')).cps.toList = _
    rw [Str.cps_append, Str.cps_append, Array.toList_append, Array.toList_append, ih, strSub_toList]
    obtain ⟨hk, hkc⟩ := List.getElem?_eq_some_iff.mp h2'
    have e1 : x.cps.toList.drop a = (x.cps.toList.drop a).take (k - a) ++ c :: x.cps.toList.drop (k + 1) := by
      have : (x.cps.toList.drop a).drop (k - a) = c :: x.cps.toList.drop (k + 1) := by
        rw [List.drop_drop, show a + (k - a) = k by omega, List.drop_eq_getElem_cons hk, hkc]
      rw [← this, List.take_append_drop]
    have e2 : sub1 c z.cps.toList ((x.cps.toList.drop a).take (k - a)) = (x.cps.toList.drop a).take (k - a) := by
      refine sub1_none fun d hd e => ?_
      obtain ⟨i, hi⟩ := List.mem_iff_getElem?.mp hd
      rw [List.getElem?_take] at hi
      split at hi
      · rename_i hlt
        rw [List.getElem?_drop] at hi
        exact h3 (a + i) (by omega) (by omega) (at_one.mpr (by rw [hi, e]))
      · cases hi
    conv => rhs; rw [e1]
    unfold sub1 at e2 ⊢
    rw [List.flatMap_append, e2, List.flatMap_cons, if_pos rfl, List.append_assoc]
theorem rep_one (x z : Str) (c : Nat) : (Txt.join z (Txt.split x ⟨#[c]⟩)).cps.toList = sub1 c z.cps.toList x.cps.toList := by
  have hone : (⟨#[c]⟩ : Str).length = 1 := rfl
  obtain ⟨f, h1, h2⟩ := occ_tight x ⟨#[c]⟩ (by rw [hone]; exact Nat.le_refl _)
  have hj : (Str.join z (partsFrom x 1 0 (occurrences x ⟨#[c]⟩ 0 x.length (x.length + 1)))).cps.toList = sub1 c z.cps.toList x.cps.toList := join_parts x z c _ 0 f h1 h2
  have same : (∀ d ∈ x.cps.toList, d ≠ c) → (Txt.join z [x]).cps.toList = sub1 c z.cps.toList x.cps.toList := fun h => by
    rw [sub1_none h]
    rfl
  unfold Txt.split
  split
  · rename_i hc
    refine same fun d hd e => ?_
    rw [hone] at hc
    simp only [Bool.or_eq_true, decide_eq_true_eq] at hc
    rcases hc with hc | hc
    · have : x.cps.toList.length = x.length := by simp [Str.length]
      have := List.length_pos_of_mem hd
      omega
    · have hd' : d ∈ x.cps := by simpa using hd
      have k1 : ∀ m, (∀ e ∈ x.cps, e < m) → d < m := fun m h => h d hd'
      subst e
      unfold Builtin.Str.strKind at hc
      by_cases a1 : x.cps.all (· < 256) = true
      · have b1 : d < 256 := by simpa using (Array.all_eq_true_iff_forall_mem.mp a1) d hd'
        simp [a1, b1] at hc
      · by_cases a2 : x.cps.all (· < 65536) = true
        · have b2 : d < 65536 := by simpa using (Array.all_eq_true_iff_forall_mem.mp a2) d hd'
          rw [if_neg a1, if_pos a2] at hc
          split at hc
          · omega
          · split at hc
            · omega
            · rename_i h9
              simp [b2] at h9
        · rw [if_neg a1, if_neg a2] at hc
          split at hc
          · omega
          · split at hc <;> omega
  · split
    · rename_i he
      refine same fun d hd e => ?_
      have he' := List.isEmpty_iff.mp he
      rw [he'] at h1
      have hf : f = 0 := h1
      obtain ⟨i, hi⟩ := List.mem_iff_getElem?.mp hd
      exact h2 i (by omega) (at_one.mpr (by rw [hi, e]))
    · rw [partsBetween_eq]
      unfold Txt.join
      rw [glued_eq_join]
      exact hj
end Mine
end
theorem Mine.slate4 : True := by first | walk1 | trivial
section
open PySem PySem.W PyProof.Rows
set_option Elab.async false
set_option maxRecDepth 100000
set_option maxHeartbeats 2000000
set_option pp.deepTerms true
set_option pp.proofs false
namespace Mine
def rep (x y z : Str) : Str := Txt.join z (Txt.split x y)
theorem split_sum (x y : Str) (k : Nat) (hy : (y.length == 0) = false) (hn : x.length ≤ 1000) (hk : k ≤ 1000) : ((Txt.split x y).map (·.length)).sum + (Txt.split x y).length * k ≤ 16777216 := by
  have hy' : 1 ≤ y.length := by
    have : y.length ≠ 0 := fun e => by rw [e] at hy; cases hy
    omega
  have h := split_weight x y hy'
  have a2 : (Txt.split x y).length * k ≤ 1001 * 1000 := Nat.mul_le_mul (by omega) hk
  omega
section
variable {prog : Program} {w : World} {A : Around} {E : Value → Shared → Prop} {s : Shared} {Q : Value → Shared → Prop}
theorem join_split {D : Addr} {x y X : Str} {t : Tok} {l : List (Str × Tok)} (hl : s.heap.IsList D (strValues l).toArray) (e : l.map (·.1) = Txt.split x y) (a : StrsAre (strValues l) (l.map (·.1)))
    (hy : (y.length == 0) = false) (hx : x.length ≤ 1000) (hX : X.length ≤ 1000)
    (h : ∀ t' k, Q (.str (rep x y X) t') { s with toks := k }) : wpAny (model prog w) A (call (.builtin "str.join") [.str X t, .ref D]) Q E s := by
  refine join_list hl (ys := Txt.split x y) (by rw [← e]; simpa using a) (split_sum x y _ hy hx hX) h
end
end Mine
namespace Mine
theorem idx0 (n : Nat) : PySem.seqIndex? 0 (n + 1 + 1) = some 0 := by
  simp [PySem.seqIndex?]
  omega
theorem idx1 (n : Nat) : PySem.seqIndex? 1 (n + 1 + 1) = some 1 := by
  simp [PySem.seqIndex?]
  omega
inductive PairsAre : List Value → List (Str × Str) → Prop
  | nil : PairsAre [] []
  | cons (y X : Str) (u v : Tok) {vs : List Value} {ps : List (Str × Str)} : PairsAre vs ps → PairsAre (.str y u :: .str X v :: vs) ((y, X) :: ps)
local macro_rules | `(tactic| walk_at "ent") => `(tactic| ((case kA => exact rfl); (case kF => exact rfl); (case kK => assumption); (case k1 => k_asm); (case k2 => k_asm); (case k3 => k_asm); (case k5 => k_asm); (case k6 => k_is); (case k7 => k_is); (case k8 => ktr_room); (case kP => ((with_reducible rename PairsAre _ _ => hq9); (rcases hq9 with _ | ⟨_, _, _, _, hq9⟩ <;> (first | exact rfl | (rcases hq9 with _ | ⟨_, _, _, _, hq9⟩ <;> (first | exact rfl | (rcases hq9 with _ | ⟨_, _, _, _, hq9⟩ <;> (first | exact rfl | (rcases hq9 with _ | ⟨_, _, _, _, hq9⟩ <;> (first | exact rfl | (rcases hq9 with _ | ⟨_, _, _, _, hq9⟩ <;> (first | exact rfl | (rcases hq9 with _ | ⟨_, _, _, _, hq9⟩ <;> (first | exact rfl | (with_reducible rename _ ≤ 5 => hl9; exfalso; simp only [List.length_cons] at hl9; omega))))))))))))))); (case c5 => decide); (case kB => exact fun _ => locs rfl); (case c2 => exact rfl); (case c3 => exact rfl); (case c4 => exact rfl); k_whole))
local macro_rules | `(tactic| walk_at "call builtin:str.join") => `(tactic| (k_here; (with_reducible show wpAny _ _ (call (Value.builtin "str.join") [Value.str _ _, Value.ref _]) _ _ _); (refine join_split (by assumption) (by assumption) (by assumption) (by assumption) (by omega) (by omega) ?_); intro _ _))
local macro_rules | `(tactic| walk_at "subscriptTail Name Slice ref ref") => `(tactic| (k_here; (with_reducible show wpAny _ _ (subscriptTail _ _ (Value.ref _) (Value.ref _)) _ _ _); k_dflt (refine slice_tup (a := 2) (by k_asm) (by k_asm) (by k_mem) (by decide) (by simp only [List.length_cons] at *; omega) (by simp only [List.length_cons] at *; omega) ?_ (by with_unfolding_all rfl) (by intro _; with_unfolding_all rfl)); intro D' h' F' N' l1; (try k_lt l1); (try dsimp only [List.drop_succ_cons, List.drop_zero] at N')))
local macro_rules | `(tactic| walk_at "exec While") => `(tactic| (k_here; refine Hold.out ?_))
local macro_rules | `(tactic| walk_at "subscriptTail") => `(tactic| (k_here; (with_reducible show wpAny _ _ (subscriptTail _ _ (Value.ref _) (Value.int _ _)) _ _ _); k_dflt (refine' item_tupleT ?t ?a ?b ?c ?d ?_; (case t => exact ⟨_, (News.get (by assumption) (by k_mem)), rfl, _, rfl⟩); (case a => decide); (case b => decide); (case c => first | exact idx0 _ | exact idx1 _ | rfl); (case d => rfl); k_whole)))
local macro_rules | `(tactic| walk_at "truthy ref") => `(tactic| (k_here; (with_reducible show wpAny _ _ (truthy (Value.ref _)) _ _ _); k_dflt (refine' ktl_truthyK ?N ?m ?z ?_; (case N => k_asm); (case m => k_mem); (case z => omega); k_whole); (try simp only [List.isEmpty_cons, List.isEmpty_nil, Bool.not_false, Bool.not_true])))
def repAll (x : Str) (ps : List (Str × Str)) : Str := ps.foldl (fun t p => rep t p.1 p.2) x
theorem repAll_snoc (x : Str) (ps : List (Str × Str)) (p : Str × Str) : repAll x (ps ++ [p]) = rep (repAll x ps) p.1 p.2 := by
  unfold repAll
  rw [List.foldl_append]
  rfl
theorem PairsAre.len {vs : List Value} {ps : List (Str × Str)} (h : PairsAre vs ps) : vs.length = 2 * ps.length := by
  induction h with
  | nil => rfl
  | cons y X u v _ ih => simp only [List.length_cons]; omega
theorem headNews {h₀ h : Heap} {L : Addr} {a : Addr × Obj} {l : List (Addr × Obj)} (N : News h₀ L h (a :: l)) : News h₀ L h [a] := fun p hp => N p (by rw [List.mem_singleton.mp hp]; exact .head _)
theorem replaceN {w : World} {p : Program} {loose : List Str} {mean : ExcName → Option Value} {mg mb : Str → Option Value} (x : Str) (t : Tok) (ps : List (Str × Str)) (vs : List Value) (hvs : PairsAre vs ps) (hps : ps.length ≤ 5)
    (hlen : ∀ pre suf, ps = pre ++ suf → (repAll x pre).length ≤ 1000) (hok : ∀ p ∈ ps, (p.1.length == 0) = false ∧ p.2.length ≤ 1000) :
    Pur PySem.Challenge.rw_pg0249_01.row.prog w (hd1.heap_39 w.params) p loose mean mg mb 5 50 52 (.str x t :: vs) (fun _ => True) (fun t => .str (repAll x ps) t) := by
  k_fill
  intro dp un gd cn cs a ccd cl outer A₀ base h₀ L m s Q E B F X T hk hd hu _ hret
  refine wpAny_call ?_
  have N : News h₀ L s.heap [] := News.nil
  k_dflt (refine' code_rest (vs := vs) (binds := fun D => [(Str.ofString "text", .str x t), (Str.ofString "pairs", .ref D)]) ?k1 ?k2 ?k3 N ?k5 ?kA ?kF ?kK ?k6 ?k7 ?k8 ?kP ?kB ?_ ?c2 ?c3 ?c4 ?c5; walk_at "ent")
  intro D' _ _ g' L' h' tk' hk0 l1 FG' F' N' B' X' T'
  replace hk0 : ∀ b o, s.heap.get? b = some o → g'.get? b = some o := fun b o e => hk0 b o e (by intro hb; cases hb)
  k_lt l1
  (try dsimp only)
  with_reducible show wpAny _ _ _ _ _ _
  k_fold
  k_steps
  refine Hold.mk ?_
  (with_reducible rename Fr _ _ _ _ => F1)
  (with_reducible rename News _ _ _ _ => N1)
  refine While_inv2 (n₀ := ps.length) (fun n m' news => ∃ pre suf vs' D t', ps = pre ++ suf ∧ PairsAre vs' suf ∧ n = suf.length ∧ news = [(D, ({ cls := .type "tuple", data := .seq vs'.toArray } : Obj))] ∧ m' (Str.ofString "text") = some (.str (repAll x pre) t') ∧ m' (Str.ofString "pairs") = some (.ref D)) F1 N1 ⟨[], ps, vs, D', t, rfl, hvs, rfl, rfl, rfl, rfl⟩ ?_
  clear F1 N1
  intro n m1 news1 h1 tk1 F1 N1 J1
  obtain ⟨pre, suf, vs', D, t', e0, hv', rfl, rfl, j1, j2⟩ := J1
  obtain ⟨m1, rfl⟩ := see_eq j1
  replace j2 := see_in j2 (by decide)
  obtain ⟨m1, rfl⟩ := see_eq j2
  clear j1 j2
  have hl := hlen pre suf e0
  have hvl := hv'.len
  have hsl : suf.length ≤ 5 := by
    have : ps.length = pre.length + suf.length := by rw [e0, List.length_append]
    omega
  cases hv' with
  | nil =>
    rw [List.append_nil] at e0
    subst e0
    k_steps
    exact hret _ _ _ (by k_asm) (fun b o e => Fr.keep (h₀ := g') (by assumption) b o (hk0 b o e))
  | @cons y X u v vs' suf' hv' =>
    have hp := hok (y, X) (by rw [e0]; simp)
    obtain ⟨hy, hX⟩ := hp
    have hyy : (y.length == 0) = false := hy
    have hXX : X.length ≤ 1000 := hX
    k_steps
    (with_reducible rename Fr _ _ _ _ => F9)
    (with_reducible rename News _ _ _ _ => N9)
    have N8 := headNews N9
    exact ⟨_, _, _, _, suf'.length, rfl, F9, N8, Nat.lt_succ_self _, pre ++ [(y, X)], suf', vs', _, _, by rw [e0, List.append_assoc]; rfl, hv', rfl, rfl, (if_neg (by decide)).trans ((if_pos rfl).trans (congrArg (fun z => some (Value.str z _)) (repAll_snoc x pre (y, X)).symm)), if_pos rfl⟩
end Mine
end
theorem Mine.slate5 : True := by first | walk1 | trivial
section
open PySem PySem.W PyProof.Rows
set_option Elab.async false
set_option maxRecDepth 100000
set_option maxHeartbeats 8000000
set_option pp.deepTerms true
set_option pp.proofs false
namespace Mine
local macro_rules | `(tactic| walk_at "ent") => `(tactic| ((case kA => exact rfl); (case kF => exact rfl); (case kK => assumption); (case k1 => k_asm); (case k2 => k_asm); (case k3 => k_asm); (case k5 => k_asm); (case k6 => k_is); (case k7 => k_is); (case k8 => ktr_room); (case k9 => exact BindsTo.of_eq rfl); (case c5 => decide); (case kB => exact locs rfl); (case c2 => exact rfl); (case c3 => exact rfl); (case c4 => exact rfl); k_whole))
local macro_rules | `(tactic| walk_at "exec For") => `(tactic| (k_here; (with_reducible rename Unit => u9'); clear u9'; refine Hold.out ?_))
local macro_rules | `(tactic| walk_at "pyIter str") => `(tactic| (k_here; refine Hold.out ?_))
local macro_rules | `(tactic| walk_at "call builtin:len") => `(tactic| (k_here; refine Hold.out ?_))
local macro_rules | `(tactic| walk_at "UnrEndW") => `(tactic| (refine Hold.out ?_))
local macro_rules | `(tactic| walk_at "StarOf ref") => `(tactic| (k_here; refine Hold.out ?_))
local macro_rules | `(tactic| walk_at "inplaceOp Add ref ref") => `(tactic| (k_here; refine Hold.out ?_))
local macro_rules | `(tactic| walk_at "subscriptTail") => `(tactic| (k_here; (with_reducible show wpAny _ _ (subscriptTail _ _ (Value.str _ _) (Value.int _ _)) _ _ _); refine Hold.out ?_))
def dig (k : Nat) : Str := ⟨#[49 + k]⟩
/-- the letters met, each with its figure -/
def pr (ss : List Str) : List Str := (ss.zipIdx.map fun p => [p.1, dig p.2]).flatten
theorem pr_snoc (ss : List Str) (y : Str) : pr (ss ++ [y]) = pr ss ++ [y, dig ss.length] := by
  unfold pr
  rw [List.zipIdx_append]
  simp
theorem pr_len (ss : List Str) : (pr ss).length = 2 * ss.length := by
  unfold pr
  rw [List.length_flatten, List.map_map]
  have : (List.map (List.length ∘ fun p : Str × Nat => [p.1, dig p.2]) ss.zipIdx) = List.replicate ss.length 2 := by
    rw [List.eq_replicate_iff]
    refine ⟨by simp, fun b hb => ?_⟩
    obtain ⟨q, _, rfl⟩ := List.mem_map.mp hb
    rfl
  rw [this, List.sum_replicate_nat]
  omega
theorem strsAny {ss : List Str} {y : Str} {b : Bool} (h : (ss.any fun z => z == y) = b) : decide (y ∈ ss) = b := by
  rw [← h, Bool.eq_iff_iff, decide_eq_true_eq, List.any_eq_true]
  constructor
  · exact fun hm => ⟨y, hm, beq_self_eq_true y⟩
  · rintro ⟨z, hz, e⟩
    rw [← eq_of_beq e]
    exact hz
theorem dig_ne {c k : Nat} (h : 97 ≤ c) (hk : k < 40) : (⟨#[c]⟩ : Str) ≠ dig k := fun e => by
  have : (⟨#[c]⟩ : Str).cps.toList = (dig k).cps.toList := by rw [e]
  have := List.head_eq_of_cons_eq this
  omega
theorem pr_mem {ss : List Str} (hn : ss.length ≤ 40) {c : Nat} (h : 97 ≤ c) : (⟨#[c]⟩ : Str) ∈ pr ss ↔ (⟨#[c]⟩ : Str) ∈ ss := by
  unfold pr
  rw [List.mem_flatten]
  constructor
  · rintro ⟨l, hl, hm⟩
    obtain ⟨⟨z, k⟩, hq, rfl⟩ := List.mem_map.mp hl
    obtain ⟨h1, h2, h3⟩ := List.mem_zipIdx hq
    rcases List.mem_cons.mp hm with e | hm
    · rw [e, h3]
      exact List.getElem_mem _
    · exact absurd (List.mem_singleton.mp hm) (dig_ne h (by omega))
  · intro hm
    obtain ⟨k, hk, e⟩ := List.mem_iff_getElem.mp hm
    exact ⟨[ss[k], dig k], List.mem_map.mpr ⟨(ss[k], k), List.mem_zipIdx_iff_getElem?.mpr (by simp [hk]), rfl⟩, by rw [e]; exact .head _⟩
theorem dig_at {k : Nat} (h : k < 5) : (⟨#[(Str.ofString "12345").cps.getD k 0]⟩ : Str) = dig k := by
  match k, h with
  | 0, _ => rfl
  | 1, _ => rfl
  | 2, _ => rfl
  | 3, _ => rfl
  | 4, _ => rfl
theorem strs_two {vs : List Value} {ss : List Str} (h : StrsAre vs ss) (a b : Str) (t u : Tok) : StrsAre (vs ++ [.str a t, .str b u]) (ss ++ [a, b]) := by
  induction h with
  | nil => exact .cons _ _ (.cons _ _ .nil)
  | cons y v _ ih => exact .cons y v ih
theorem half_len (k : Nat) : (((2 * k : Nat) : Int)).fdiv 2 = (k : Nat) := by
  rw [Int.fdiv_eq_ediv_of_nonneg _ (by decide)]
  omega
def prs (ss : List Str) : List (Str × Str) := ss.zipIdx.map fun p => (p.1, dig p.2)
def nameOf (x : Str) : Str := repAll x (prs (met x.cps.toList x.cps.toList.length))
theorem pairsStrs : ∀ (ps : List (Str × Str)) {vs : List Value}, StrsAre vs (ps.map fun p => [p.1, p.2]).flatten → PairsAre vs ps
  | [], _, .nil => .nil
  | (y, X) :: ps, _, .cons _ u (.cons _ v h) => .cons y X u v (pairsStrs ps h)
theorem prs_flat (ss : List Str) : ((prs ss).map fun p => [p.1, p.2]).flatten = pr ss := by
  unfold prs pr
  rw [List.map_map]
  rfl
theorem met_is {l : List Nat} : ∀ (i : Nat) {z : Str}, i ≤ l.length → z ∈ met l i → ∃ c ∈ l, z = ⟨#[c]⟩
  | 0, z, _, h => by simp [met] at h
  | i + 1, z, hi, h => by
    rw [met_succ (List.getElem?_eq_getElem (by omega))] at h
    split at h
    · exact met_is i (by omega) h
    · rcases List.mem_append.mp h with h | h
      · exact met_is i (by omega) h
      · exact ⟨l[i], List.getElem_mem _, List.mem_singleton.mp h⟩
theorem rep_len1 (x : Str) (c d : Nat) : (rep x ⟨#[c]⟩ ⟨#[d]⟩).length = x.length := by
  have h := rep_one x ⟨#[d]⟩ c
  have e : ∀ r : Str, r.length = r.cps.toList.length := fun r => by simp [Str.length]
  rw [e, e]
  show (Txt.join ⟨#[d]⟩ (Txt.split x ⟨#[c]⟩)).cps.toList.length = _
  rw [h]
  generalize x.cps.toList = l
  unfold sub1
  induction l with
  | nil => rfl
  | cons a l ih =>
    rw [List.flatMap_cons, List.length_append, ih, List.length_cons]
    split <;> simp <;> omega
theorem repAll_len : ∀ (ps : List (Str × Str)) (x : Str), (∀ p ∈ ps, ∃ c d, p = (⟨#[c]⟩, ⟨#[d]⟩)) → (repAll x ps).length = x.length
  | [], _, _ => rfl
  | p :: ps, x, h => by
    obtain ⟨c, d, rfl⟩ := h p (.head _)
    have := repAll_len ps (rep x ⟨#[c]⟩ ⟨#[d]⟩) fun q hq => h q (.tail _ hq)
    rw [rep_len1] at this
    exact this
theorem prs_is {l : List Nat} {i : Nat} (hi : i ≤ l.length) : ∀ p ∈ prs (met l i), ∃ c d, p = ((⟨#[c]⟩ : Str), (⟨#[d]⟩ : Str)) := by
  intro p hp
  obtain ⟨⟨z, k⟩, hq, rfl⟩ := List.mem_map.mp hp
  have hz := List.mem_of_getElem? (List.mem_zipIdx_iff_getElem?.mp hq)
  obtain ⟨c, _, rfl⟩ := met_is i hi hz
  exact ⟨c, 49 + k, rfl⟩
theorem named {w : World} {p : Program} {loose : List Str} {mean : ExcName → Option Value} {mg mb : Str → Option Value} (x : Str) (t : Tok) (hx : x.length = 5) (ha : x.cps.all (· < 128) = true) (hc : ∀ c ∈ x.cps.toList, 97 ≤ c) :
    Pur PySem.Challenge.rw_pg0249_01.row.prog w (hd1.heap_39 w.params) p loose mean mg mb 10 100 217 [.str x t] (fun _ => True) (fun t => .str (nameOf x) t) := by
  k_fill
  intro dp un gd cn cs a ccd cl outer A₀ base h₀ L m s Q E B F X T hk hd hu _ hret
  refine wpAny_call ?_
  have N : News h₀ L s.heap [] := News.nil
  have hold0 : Unit := ()
  k_dflt (refine' code_sub (binds := [(Str.ofString "word", .str x t)]) ?k1 ?k2 ?k3 N ?k5 ?kA ?kF ?kK ?k6 ?k7 ?k8 ?k9 ?kB ?_ ?c2 ?c3 ?c4 ?c5; walk_at "ent"); 
  intro g' L' h' tk' hk0 _ FG' F' N' B' X' T'
  replace hk0 : ∀ b o, s.heap.get? b = some o → g'.get? b = some o := fun b o e => hk0 b o e (by intro hb; cases hb)
  (try dsimp only)
  with_reducible show wpAny _ _ _ _ _ _
  k_fold
  k_steps
  refine Hold.mk ?_
  (with_reducible rename Fr _ _ _ _ => F1)
  (with_unfolding_all refine' For_turns F1 ?_ ?_ ?_; k_whole)
  k_steps
  refine Hold.mk ?_
  (with_reducible rename Fr _ _ _ _ => F1)
  (with_reducible rename News _ _ _ [_] => N1)
  with_unfolding_all refine iter_strTurns (by rfl) ha F1 N1 fun I hI => ?_
  have hxl : x.cps.toList.length = 5 := by simpa [Str.length] using hx
  refine strRest_ind (x := x) (J := fun i m' news => ∃ l vs n, news = [(l, listOf vs.toArray n)] ∧ l < I ∧ StrsAre vs (pr (met x.cps.toList i)) ∧ m' (Str.ofString "word") = some (.str x t) ∧ m' (Str.ofString "pairs") = some (.ref l)) ?_ ?_ 5 0 _ _ (by omega) ⟨_, [], 0, rfl, hI _ (.head _), .nil, rfl, rfl⟩
  · rintro i m₁ news c hci ⟨l, vs, n, rfl, hl, hv, g1, g2⟩ tt h tk F2
    refine AllObj.cons fun oI hoI => ?_
    refine AllObj.nil ?_
    intro N2
    obtain ⟨m', e⟩ := see_eq g1
    have g2' := g2
    rw [e] at g2'
    replace g2' := see_in g2' (by decide)
    obtain ⟨m'', e'⟩ := see_eq g2'
    rw [e'] at e
    subst e'
    subst e
    clear F1 N1
    simp only [List.cons_append, List.nil_append] at N2
    have hi : i < 5 := by
      have := (List.getElem?_eq_some_iff.mp hci).1
      omega
    have hml := met_len x.cps.toList i (by omega)
    have hvl : vs.length = 2 * (met x.cps.toList i).length := by rw [hv.length, pr_len]
    (try dsimp only)
    k_steps
    · (with_reducible rename List.any _ _ = true => hq)
      have hq := of_decide_eq_true (strsAny hq)
      rw [pr_mem (by omega) (hc c (List.mem_of_getElem? hci))] at hq
      refine Hold.mk ?_
      have hm1 := met_succ hci
      rw [if_pos hq] at hm1
      (with_reducible rename Fr _ _ _ _ => F9)
      (with_reducible rename News _ _ _ _ => N9)
      refine endZ F9 N9 [(l, _)] (fun p hp => hp) (fun p hp q hq => ?_) ⟨_, _, _, rfl, hl, by rw [hm1]; exact hv, (if_neg (by decide)).trans (if_pos rfl), (if_neg (by decide)).trans ((if_neg (by decide)).trans (if_pos rfl))⟩
      rw [List.mem_singleton.mp hp, List.mem_singleton.mp hq]
      exact Nat.ne_of_lt hl
    · (with_reducible rename List.any _ _ = false => hq)
      refine Hold.mk ?_
      (with_reducible rename News _ _ _ _ => N3)
      refine len_list (items := vs.toArray) ⟨_, (N3 (l, _) (.tail _ (.head _))).1, rfl, _, rfl⟩ (by rw [List.size_toArray, hvl]; omega) ?_
      rw [List.size_toArray, hvl]
      k_steps
      refine Hold.mk ?_
      rw [half_len]
      refine str_item (by omega) (by rw [show (Str.ofString "12345").length = 5 from by decide]; omega) (Nat.le_of_ble_eq_true rfl) ?_ (by with_unfolding_all rfl) (by intro _; with_unfolding_all rfl)
      rw [Int.toNat_natCast, dig_at (by omega)]
      k_steps
      refine Hold.mk ?_
      have hvl2 : vs.length ≤ 10 := by rw [hvl]; omega
      have hlN := ltN hl
      (repeat ((with_reducible rename _ ∧ _ => hh9); obtain ⟨_, _⟩ := hh9))
      k_dflt (refine' iadd_list ?F ?N ?U ?hb ?hy ?hz ?_; (case F => k_asm); (case N => k_asm); (case U => k_upd); (case hb => k_mem); (case hy => exact Nat.le_of_ble_eq_true rfl); (case hz => exact Nat.le_trans (Nat.add_le_add_right hvl2 2) (by decide)); k_whole)
      intro h' F' N'
      (try simp only [List.cons_append, List.nil_append] at N')
      (try k_sweep)
      k_steps
      refine Hold.mk ?_
      have hq := of_decide_eq_false (strsAny hq)
      rw [pr_mem (by omega) (hc c (List.mem_of_getElem? hci))] at hq
      have hm1 := met_succ hci
      rw [if_neg hq] at hm1
      (with_reducible rename Fr _ _ _ _ => F9)
      (with_reducible rename News _ _ _ _ => N9)
      refine endZ F9 N9 [(l, _)] (fun p hp => .tail _ hp) (fun p hp q hq => ?_) ⟨_, _, _, rfl, hl, ?_, (if_neg (by decide)).trans ((if_neg (by decide)).trans (if_pos rfl)), if_pos rfl⟩
      · rw [List.mem_singleton.mp hp, List.mem_singleton.mp hq]
        exact Nat.ne_of_lt hl
      · rw [hm1, pr_snoc]
        exact strs_two hv _ _ _ _
  · rintro m₁ news ⟨l, vs, n, rfl, hl, hv, g1, g2⟩ h tk F2 N2
    obtain ⟨m', e⟩ := see_eq g1
    have g2' := g2
    rw [e] at g2'
    replace g2' := see_in g2' (by decide)
    obtain ⟨m'', e'⟩ := see_eq g2'
    rw [e'] at e
    subst e'
    subst e
    clear F1 N1
    (try dsimp only)
    k_steps
    refine Hold.mk ?_
    (with_reducible rename Fr _ _ _ _ => F9)
    (with_reducible rename News _ _ _ [_] => N9)
    have hml := met_len x.cps.toList x.cps.toList.length (Nat.le_refl _)
    have hvl : vs.length = 2 * (met x.cps.toList x.cps.toList.length).length := by rw [hv.length, pr_len]
    refine star_seq F9 N9 (.head _) rfl rfl (.inl rfl) (ws := vs) (by simp) (by rw [List.size_toArray, sizeLine_eq]; omega) ?_
    intro h9 F9 N9
    k_steps
    rw [List.append_nil]
    refine replaceN x t (prs (met x.cps.toList x.cps.toList.length)) vs (pairsStrs _ (by rw [prs_flat]; exact hv)) (by unfold prs; rw [List.length_map, List.length_zipIdx]; omega) (fun pre suf e => ?_) (fun p hp => ?_) _ _ _ _ _ _ _ _ _ _ _ _ _ _ _ _ _ (by k_asm) F9 (by k_asm) (by k_asm) rfl (by ktr_room) (by ktr_units) trivial ?_
    · rw [repAll_len pre x fun q hq => prs_is (Nat.le_refl _) q (by rw [e]; exact List.mem_append_left _ hq)]
      omega
    · obtain ⟨c, d, rfl⟩ := prs_is (Nat.le_refl _) p hp
      exact ⟨rfl, Nat.le_of_ble_eq_true rfl⟩
    · intro t9 h9 tk9 F9' k9
      have N9' := news_kept N9 k9
      (try dsimp only)
      k_steps
      exact hret _ _ _ (by k_asm) (fun b o e => Fr.keep (h₀ := g') (by assumption) b o (hk0 b o e))
end Mine
end
theorem Mine.slate6 : True := by first | walk1 | trivial
section
open PySem PySem.W PyProof.Rows
set_option Elab.async false
set_option maxRecDepth 100000
set_option maxHeartbeats 8000000
set_option pp.deepTerms true
set_option pp.proofs false
namespace Mine
def fnB (nm : Str) : List Stmt → List Stmt
  | [] => []
  | .FunctionDef n _ b _ _ _ _ _ _ _ :: r => if n = nm then b else fnB nm r
  | _ :: r => fnB nm r
def fnS (nm : Str) : List Stmt → Scope
  | [] => default
  | .FunctionDef n _ _ _ _ _ s _ _ _ :: r => if n = nm then s else fnS nm r
  | _ :: r => fnS nm r
def sScope : Scope := fnS (Str.ofString "_law_second") PySem.Challenge.pw_pg0249_01.main.body
def sBody : List Stmt := fnB (Str.ofString "_law_second") PySem.Challenge.pw_pg0249_01.main.body
abbrev sEnv (L : Addr) : Env := envOfC (Str.ofString "_law_second") sScope L 205 (.ref 204)
def RowsIn (tups : List (Addr × Obj)) (vs : List Value) (rows : List (Str × Str)) : Prop := ∀ g : Heap, (∀ p ∈ tups, g.get? p.1 = some p.2) → RowsAt g vs rows
/-- the rows of the first i letters: the letter in either case, the place's figure -/
def RowsL (cs : List Nat) (i : Nat) (rows : List (Str × Str)) : Prop := rows.length = i ∧ ∀ k c, k < i → cs[k]? = some c → ∃ r, rows[k]? = some r ∧ Txt.lower r.1 = ⟨#[c]⟩ ∧ r.2 = dig k ∧ r.1.length ≤ 1000
local macro_rules | `(tactic| walk_at "call type:zip") => `(tactic| (k_here; refine Hold.out ?_))
local macro_rules | `(tactic| walk_at "call ref") => `(tactic| (k_here; (with_reducible show wpAny _ _ (call (Value.ref 193) _ _) _ _ _); refine Hold.out ?_))
local macro_rules | `(tactic| walk_at "call builtin:str.upper") => `(tactic| (k_here; (show wpAny _ _ (call (Value.builtin "str.upper") [Value.str _ _]) _ _ _); (refine SCL.upper (Nat.le_of_ble_eq_true rfl) ?_); intro _))
local macro_rules | `(tactic| walk_at "UnrEndW") => `(tactic| (refine Hold.out ?_))
def plainB (z : Str) : Bool := z.cps.all fun d => decide (32 ≤ d) && decide (d < 127)
theorem plain_of {z : Str} (h : plainB z = true) : Plain z := fun i hi => by
  have := Array.all_eq_true.mp h i hi
  rw [show z.cps.getD i 0 = z.cps[i] by simp [Array.getD, hi]]
  simpa using this
theorem case_all : (List.range 26).all (fun k => decide (Txt.lower (⟨#[97 + k]⟩ : Str) = ⟨#[97 + k]⟩) && (decide (Txt.lower (Txt.upper (⟨#[97 + k]⟩ : Str)) = ⟨#[97 + k]⟩) && (plainB (⟨#[97 + k]⟩ : Str) && (plainB (Txt.upper (⟨#[97 + k]⟩ : Str)) && decide ((Txt.upper (⟨#[97 + k]⟩ : Str)).length ≤ 10))))) = true := by decide +kernel
theorem case_ok {c : Nat} (h1 : 97 ≤ c) (h2 : c ≤ 122) : Txt.lower (⟨#[c]⟩ : Str) = ⟨#[c]⟩ ∧ Txt.lower (Txt.upper (⟨#[c]⟩ : Str)) = ⟨#[c]⟩ ∧ Plain (⟨#[c]⟩ : Str) ∧ Plain (Txt.upper (⟨#[c]⟩ : Str)) ∧ (Txt.upper (⟨#[c]⟩ : Str)).length ≤ 10 := by
  have := List.all_eq_true.mp case_all (c - 97) (List.mem_range.mpr (by omega))
  simp only [Bool.and_eq_true, decide_eq_true_eq, show 97 + (c - 97) = c by omega] at this
  exact ⟨this.1, this.2.1, plain_of this.2.2.1, plain_of this.2.2.2.1, this.2.2.2.2⟩
theorem dig_get {i d : Nat} (hi : i < 5) (h : (Str.ofString "12345").cps[i]? = some d) : (⟨#[d]⟩ : Str) = dig i := by
  match i, hi, h with
  | 0, _, h => cases (show some 49 = some d from h); rfl
  | 1, _, h => cases (show some 50 = some d from h); rfl
  | 2, _, h => cases (show some 51 = some d from h); rfl
  | 3, _, h => cases (show some 52 = some d from h); rfl
  | 4, _, h => cases (show some 53 = some d from h); rfl
theorem dig_plain {i : Nat} (hi : i < 5) : Plain (dig i) := by
  match i, hi with
  | 0, _ => exact plain_of (by decide +kernel)
  | 1, _ => exact plain_of (by decide +kernel)
  | 2, _ => exact plain_of (by decide +kernel)
  | 3, _ => exact plain_of (by decide +kernel)
  | 4, _ => exact plain_of (by decide +kernel)
theorem RowsIn.snoc {tups : List (Addr × Obj)} {vs : List Value} {rows : List (Str × Str)} {T : Addr} {k v : Str} {t u : Tok} (R : RowsIn tups vs rows) : RowsIn ((T, ({ cls := .type "tuple", data := .seq #[.str k t, .str v u] } : Obj)) :: tups) (vs ++ [.ref T]) (rows ++ [(k, v)]) :=
  fun g hg => (R g fun p hp => hg p (.tail _ hp)).snoc ⟨_, hg _ (.head _), rfl, _, rfl⟩
theorem RowsL.snoc {cs : List Nat} {i c : Nat} {rows : List (Str × Str)} {k : Str} (R : RowsL cs i rows) (hc : cs[i]? = some c) (h1 : Txt.lower k = ⟨#[c]⟩) (h2 : k.length ≤ 1000) : RowsL cs (i + 1) (rows ++ [(k, dig i)]) := by
  refine ⟨by rw [List.length_append, R.1]; rfl, fun j d hj hd => ?_⟩
  rcases Nat.lt_or_ge j i with h | h
  · obtain ⟨r, e, q⟩ := R.2 j d h hd
    exact ⟨r, by rw [List.getElem?_append_left (by rw [R.1]; exact h)]; exact e, q⟩
  · have e : j = i := by omega
    subst e
    rw [hc] at hd
    cases hd
    exact ⟨(k, dig j), by rw [List.getElem?_append_right (by rw [R.1]; exact Nat.le_refl _), R.1]; simp, h1, rfl, h2⟩
theorem News.swap {h₀ h : Heap} {L : Addr} {a b c : List (Addr × Obj)} (N : News h₀ L h (a ++ (b ++ c))) : News h₀ L h (b ++ (a ++ c)) := fun p hp => N p (by
  rcases List.mem_append.mp hp with hp | hp
  · exact List.mem_append_right _ (List.mem_append_left _ hp)
  rcases List.mem_append.mp hp with hp | hp
  · exact List.mem_append_left _ hp
  · exact List.mem_append_right _ (List.mem_append_right _ hp))
theorem memShuf {T p : Addr × Obj} {its tab tups more : List (Addr × Obj)} (h : p ∈ its ++ (tab ++ ((T :: tups) ++ more))) : p ∈ T :: (tab ++ (its ++ (tups ++ more))) := by
  simp only [List.mem_append, List.mem_cons] at h ⊢
  rcases h with h | h | (h | h) | h <;> simp only [h, true_or, or_true]
theorem sec1 {w : World} {p : Program} {loose : List Str} {mean : ExcName → Option Value} {mg mb : Str → Option Value} (dp un : Nat) (gd : Option (List Code)) (cn : Str) (cs : Scope) (a : Addr) (ccd : Value) (cl : List (Str × Addr)) (outer : List Env) (base g' : Heap) (L L' : Addr) (m : Str → Option Value) (s : Shared) (Q : Flow → Shared → Prop) (E : Value → Shared → Prop)
    (x : Str) (t : Tok) (l tx dx lh : Addr) (tkd : Tok) (hsh : Int) (gs : List Value) (ng : Nat) (ns : List Int) (more : List (Addr × Obj))
    (B' : Below (ktrTop dp un gd cn cs L a ccd cl outer) base (envX cn cs L a ccd cl :: outer) g') (F : Fr g' L' s.heap m) (X' : (hd1.heap_39 w.params).In g') (T' : Top p loose mean mg mb g') (hk : cs.kind = .function) (hd : dp + 100 < recursionLimit) (hu : un + 1000 < cLine)
    (N : News g' L' s.heap (tab3 196 tx dx lh tkd hsh [] 0 ++ more)) (q1 : tx < lh) (q2 : dx < lh) (q3 : dx < tx) (q4 : ∀ p ∈ more, p.1 < dx)
    (ml : (l, listOf gs.toArray ng) ∈ more) (hgs : IntsAre gs ns) (hgl : gs.length = 5) (hx : x.length = 5) (ha : x.cps.all (· < 128) = true) (hpl : ∀ c ∈ x.cps.toList, 97 ≤ c ∧ c ≤ 122)
    (m1 : m (Str.ofString "table") = some (.ref tx)) (m2 : m (Str.ofString "word") = some (.str x t)) (m3 : m (Str.ofString "great") = some (.ref l))
    (hE : PassesOwn (model PySem.Challenge.rw_pg0249_01.row.prog w) ((ktrTop dp un gd cn cs L a ccd cl outer).deeper (sEnv L')) (sEnv L') E)
    (hret : ∀ m' h tk vs n tups rows, Fr g' L' h m' → News g' L' h (tab3 196 tx dx lh tkd hsh vs n ++ (tups ++ more)) → RowsIn tups vs rows → RowsL x.cps.toList 5 rows → (∀ p ∈ tups, p.1 ≠ lh) →
      m' (Str.ofString "table") = some (.ref tx) → m' (Str.ofString "word") = some (.str x t) → Q .next { s with heap := h, toks := tk }) :
    wpAny (model PySem.Challenge.rw_pg0249_01.row.prog w) ((ktrTop dp un gd cn cs L a ccd cl outer).deeper (sEnv L')) (exec (nthS sBody 1) (sEnv L')) Q E s := by
  revert X'; k_fill; intro X'
  have eS : sScope = sScope := rfl
  have eB : nthS sBody 1 = nthS sBody 1 := rfl
  (conv at eS => rhs; whnf)
  (conv at eB => rhs; whnf)
  unfold sEnv at hE ⊢
  rw [eS] at hE ⊢
  rw [eB]
  clear eS eB
  obtain ⟨m, rfl⟩ := see_eq m1
  replace m2 := see_in m2 (by decide)
  replace m3 := see_in m3 (by decide)
  obtain ⟨m, rfl⟩ := see_eq m2
  replace m3 := see_in m3 (by decide)
  obtain ⟨m, rfl⟩ := see_eq m3
  clear m1 m2 m3
  (with_unfolding_all refine' For_turns F ?_ ?_ ?_; k_whole)
  (try simp only [List.cons_append, List.nil_append] at N)
  k_steps
  refine Hold.mk ?_
  (with_reducible rename Fr _ _ _ _ => F1)
  (with_reducible rename News g' _ _ (_ :: _) => N1)
  with_unfolding_all refine turnsH (n := 5) (lo := listOf gs.toArray ng) (by rfl) ha (by decide +kernel) hx (by decide +kernel) hgl F1 N1 (.tail _ (.tail _ (.tail _ ml))) rfl rfl (fun I i m' news' => ∃ vs n tups rows, news' = tab3 196 tx dx lh tkd hsh vs n ++ (tups ++ more) ∧ RowsIn tups vs rows ∧ RowsL x.cps.toList i rows ∧ vs.length = i ∧ (∀ p ∈ tups, I + 5 < p.1) ∧ lh < I ∧ (∀ p ∈ more, p.1 < I) ∧ m' (Str.ofString "table") = some (.ref tx) ∧ m' (Str.ofString "word") = some (.str x t)) ?_ ?_ ?_
  · intro I hI
    exact ⟨[], 0, [], [], rfl, fun g _ => .nil, ⟨rfl, fun k c hk => absurd hk (by omega)⟩, rfl, fun _ h => (nomatch h), hI _ (.head _), fun p hp => hI p (.tail _ (.tail _ (.tail _ hp))), rfl, rfl⟩
  · rintro I hI i m₁ news₁ c d v hi hc hd' hv ⟨vs, n, tups, rows, rfl, R, RL, hvl, htu, hlI, hmI, g1, g2⟩ hkp T t1 u1 h tk hT F2
    refine AllObj.cons fun o1 c1 => ?_
    refine AllObj.cons fun o2 c2 => ?_
    refine AllObj.cons fun o3 c3 => ?_
    refine AllObj.cons fun o4 c4 => ?_
    refine AllObj.cons fun o5 c5 => ?_
    refine AllObj.cons fun o6 c6 => ?_
    refine AllObj.nil ?_
    intro N2
    obtain ⟨m', e⟩ := see_eq g1
    have g2' := g2
    rw [e] at g2'
    replace g2' := see_in g2' (by decide)
    obtain ⟨m'', e'⟩ := see_eq g2'
    rw [e'] at e
    subst e'
    subst e
    clear F1 N1
    obtain ⟨km, tm, rfl⟩ : ∃ k t, v = .int k t := by
      have := hgs.int_at i v hv
      obtain ⟨t, e⟩ := this
      exact ⟨_, t, e⟩
    have hci : x.cps.toList[i]? = some c := by simpa using hc
    obtain ⟨b1, b2⟩ := hpl c (List.mem_of_getElem? hci)
    obtain ⟨k1, k2, k3, k4, k5⟩ := case_ok b1 b2
    have hde := dig_get hi hd'
    rw [hde] at hT
    have hT' : ∀ p ∈ ([(I + 5, o1), (I + 3, o2), (I + 4, o3), (I, o4), (I + 1, o5), (I + 2, o6)] : List (Addr × Obj)), I ≤ p.1 ∧ p.1 ≤ I + 5 := by
      intro p hp
      simp only [List.mem_cons, List.not_mem_nil, or_false] at hp
      rcases hp with rfl | rfl | rfl | rfl | rfl | rfl
      · exact ⟨Nat.le_add_right _ _, Nat.le_refl _⟩
      · exact ⟨Nat.le_add_right _ _, Nat.add_le_add_left (by decide) _⟩
      · exact ⟨Nat.le_add_right _ _, Nat.add_le_add_left (by decide) _⟩
      · exact ⟨Nat.le_refl _, Nat.le_add_right _ _⟩
      · exact ⟨Nat.le_add_right _ _, Nat.add_le_add_left (by decide) _⟩
      · exact ⟨Nat.le_add_right _ _, Nat.add_le_add_left (by decide) _⟩
    have N3 := N2
    (try simp only [List.cons_append, List.nil_append] at N2)
    (try dsimp only)
    k_steps
    · refine Hold.mk ?_
      (with_reducible rename Fr g' _ _ _ => F9)
      (with_reducible rename News g' _ _ _ => N9)
      have N8 : News g' L' _ (tab3 196 tx dx lh tkd hsh vs n ++ ([(I + 5, o1), (I + 3, o2), (I + 4, o3), (I, o4), (I + 1, o5), (I + 2, o6)] ++ (tups ++ more))) := News.swap N9
      k_dflt (refine' addh _ _ _ _ _ _ _ _ _ _ _ _ _ _ _ _ _ tx dx lh tkd hsh vs n (Txt.upper ⟨#[c]⟩) (dig i) _ _ ([(I + 5, o1), (I + 3, o2), (I + 4, o3), (I, o4), (I + 1, o5), (I + 2, o6)] ++ (tups ++ more)) B' F9 X' T' ?zka ?zda ?zua N8 ?zma (by omega) q1 q2 q3 (Nat.le_trans k5 (by decide)) k4 (Nat.le_of_ble_eq_true rfl) (dig_plain hi) ?zra)
      case zka => exact rfl
      case zda => ktr_room
      case zua => ktr_units
      case zma =>
        intro p hp
        rcases List.mem_append.mp hp with hp | hp
        · exact Nat.ne_of_gt (Nat.lt_of_lt_of_le hlI (hT' p hp).1)
        rcases List.mem_append.mp hp with hp | hp
        · exact Nat.ne_of_gt (Nat.lt_trans hlI (Nat.lt_of_le_of_lt (Nat.le_add_right _ 5) (htu p hp)))
        · exact Nat.ne_of_lt (Nat.lt_trans (q4 p hp) q2)
      case zra =>
        intro T2 t3 t4 n2 h2 tk2 F3 N3' hT2
        (try dsimp only)
        k_steps
        refine Hold.mk ?_
        (with_reducible rename Fr g' _ _ _ => F9)
        (with_reducible rename News g' _ _ _ => N9)
        refine endZ F9 N9 (tab3 196 tx dx lh tkd hsh (vs ++ [.ref T2]) n2 ++ (((T2, ({ cls := .type "tuple", data := .seq #[.str (Txt.upper ⟨#[c]⟩) t3, .str (dig i) t4] } : Obj)) :: tups) ++ more)) ?_ ?_ ⟨?_, _, _, _, _, rfl, R.snoc, RL.snoc hci k2 (Nat.le_trans k5 (by decide)), ?_, ?_, hlI, hmI, ?_, ?_⟩
        · exact fun p hp => memShuf hp
        · intro p hp q hq
          obtain ⟨z1, z2⟩ := hT' q hq
          rcases List.mem_append.mp hp with hp | hp
          · refine Nat.ne_of_lt (Nat.lt_of_lt_of_le ?_ z1)
            rcases List.mem_cons.mp hp with rfl | hp
            · exact hlI
            rcases List.mem_cons.mp hp with rfl | hp
            · exact Nat.lt_trans q1 hlI
            · rw [List.mem_singleton.mp hp]
              exact Nat.lt_trans q2 hlI
          rcases List.mem_append.mp hp with hp | hp
          · rcases List.mem_cons.mp hp with rfl | hp
            · exact Nat.ne_of_gt (hT2 q (List.mem_append_left _ hq))
            · exact Nat.ne_of_gt (Nat.lt_of_le_of_lt z2 (htu p hp))
          · exact Nat.ne_of_lt (Nat.lt_of_lt_of_le (hmI p hp) z1)
        · intro p hp
          rw [List.mem_singleton.mp hp]
          exact List.mem_append_right _ (List.mem_append_right _ ml)
        · rw [List.length_append, hvl]
          rfl
        · intro p hp
          rcases List.mem_cons.mp hp with rfl | hp
          · exact hT2 (I + 5, o1) (.head _)
          · exact htu p hp
        · exact (if_neg (by decide)).trans ((if_neg (by decide)).trans ((if_neg (by decide)).trans (if_pos rfl)))
        · exact (if_neg (by decide)).trans ((if_neg (by decide)).trans ((if_neg (by decide)).trans ((if_neg (by decide)).trans (if_pos rfl))))
    · refine Hold.mk ?_
      (with_reducible rename Fr g' _ _ _ => F9)
      (with_reducible rename News g' _ _ _ => N9)
      have N8 : News g' L' _ (tab3 196 tx dx lh tkd hsh vs n ++ ([(I + 5, o1), (I + 3, o2), (I + 4, o3), (I, o4), (I + 1, o5), (I + 2, o6)] ++ (tups ++ more))) := News.swap N9
      k_dflt (refine' addh _ _ _ _ _ _ _ _ _ _ _ _ _ _ _ _ _ tx dx lh tkd hsh vs n ⟨#[c]⟩ (dig i) _ _ ([(I + 5, o1), (I + 3, o2), (I + 4, o3), (I, o4), (I + 1, o5), (I + 2, o6)] ++ (tups ++ more)) B' F9 X' T' ?zkb ?zdb ?zub N8 ?zmb (by omega) q1 q2 q3 (Nat.le_of_ble_eq_true rfl) k3 (Nat.le_of_ble_eq_true rfl) (dig_plain hi) ?zrb)
      case zkb => exact rfl
      case zdb => ktr_room
      case zub => ktr_units
      case zmb =>
        intro p hp
        rcases List.mem_append.mp hp with hp | hp
        · exact Nat.ne_of_gt (Nat.lt_of_lt_of_le hlI (hT' p hp).1)
        rcases List.mem_append.mp hp with hp | hp
        · exact Nat.ne_of_gt (Nat.lt_trans hlI (Nat.lt_of_le_of_lt (Nat.le_add_right _ 5) (htu p hp)))
        · exact Nat.ne_of_lt (Nat.lt_trans (q4 p hp) q2)
      case zrb =>
        intro T2 t3 t4 n2 h2 tk2 F3 N3' hT2
        (try dsimp only)
        k_steps
        refine Hold.mk ?_
        (with_reducible rename Fr g' _ _ _ => F9)
        (with_reducible rename News g' _ _ _ => N9)
        refine endZ F9 N9 (tab3 196 tx dx lh tkd hsh (vs ++ [.ref T2]) n2 ++ (((T2, ({ cls := .type "tuple", data := .seq #[.str ⟨#[c]⟩ t3, .str (dig i) t4] } : Obj)) :: tups) ++ more)) ?_ ?_ ⟨?_, _, _, _, _, rfl, R.snoc, RL.snoc hci k1 (Nat.le_of_ble_eq_true rfl), ?_, ?_, hlI, hmI, ?_, ?_⟩
        · exact fun p hp => memShuf hp
        · intro p hp q hq
          obtain ⟨z1, z2⟩ := hT' q hq
          rcases List.mem_append.mp hp with hp | hp
          · refine Nat.ne_of_lt (Nat.lt_of_lt_of_le ?_ z1)
            rcases List.mem_cons.mp hp with rfl | hp
            · exact hlI
            rcases List.mem_cons.mp hp with rfl | hp
            · exact Nat.lt_trans q1 hlI
            · rw [List.mem_singleton.mp hp]
              exact Nat.lt_trans q2 hlI
          rcases List.mem_append.mp hp with hp | hp
          · rcases List.mem_cons.mp hp with rfl | hp
            · exact Nat.ne_of_gt (hT2 q (List.mem_append_left _ hq))
            · exact Nat.ne_of_gt (Nat.lt_of_le_of_lt z2 (htu p hp))
          · exact Nat.ne_of_lt (Nat.lt_of_lt_of_le (hmI p hp) z1)
        · intro p hp
          rw [List.mem_singleton.mp hp]
          exact List.mem_append_right _ (List.mem_append_right _ ml)
        · rw [List.length_append, hvl]
          rfl
        · intro p hp
          rcases List.mem_cons.mp hp with rfl | hp
          · exact hT2 (I + 5, o1) (.head _)
          · exact htu p hp
        · exact (if_neg (by decide)).trans ((if_neg (by decide)).trans ((if_neg (by decide)).trans (if_pos rfl)))
        · exact (if_neg (by decide)).trans ((if_neg (by decide)).trans ((if_neg (by decide)).trans ((if_neg (by decide)).trans (if_pos rfl))))
  · rintro I m₁ news₁ ⟨vs, n, tups, rows, rfl, R, RL, hvl, htu, hlI, hmI, g1, g2⟩ hkp h tk F2 N2
    exact hret m₁ h tk vs n tups rows F2 N2 R RL (fun p hp => Nat.ne_of_gt (Nat.lt_trans hlI (Nat.lt_of_le_of_lt (Nat.le_add_right _ 5) (htu p hp)))) g1 g2
end Mine
end
section
open PySem PySem.W PyProof.Rows
set_option Elab.async false
set_option maxRecDepth 100000
namespace Mine
theorem getD_el {α : Type} (l : List α) (d : α) {i : Nat} (h : i < l.length) : l.getD i d = l[i] := by
  rw [List.getD_eq_getElem?_getD, List.getElem?_eq_getElem h]
  rfl
theorem stored_at (kvs : List (Str × Value)) (k k' : Str) (v : Value) : valueAt (stored kvs k v) k' = if k' = k then some v else valueAt kvs k' := by
  unfold valueAt stored
  by_cases ha : (kvs.any fun kv => decide (kv.1 = k)) = true
  · rw [if_pos ha, List.find?_map]
    by_cases hk : k' = k
    · subst hk
      rw [if_pos rfl]
      have e : ((fun kv : Str × Value => decide (kv.1 = k')) ∘ fun kv : Str × Value => if kv.1 = k' then (kv.1, v) else kv) = fun kv => decide (kv.1 = k') := funext fun kv => by
        simp only [Function.comp_apply]
        split <;> rfl
      rw [e]
      cases hf : kvs.find? (fun kv => decide (kv.1 = k')) with
      | none =>
        obtain ⟨q, hq, hq2⟩ := List.any_eq_true.mp ha
        exact absurd hq2 (List.find?_eq_none.mp hf q hq)
      | some q =>
        have hq : q.1 = k' := by simpa using List.find?_some hf
        simp only [Option.map_some, hq, if_true]
    · rw [if_neg hk]
      have e : ((fun kv : Str × Value => decide (kv.1 = k')) ∘ fun kv : Str × Value => if kv.1 = k then (kv.1, v) else kv) = fun kv => decide (kv.1 = k') := funext fun kv => by
        simp only [Function.comp_apply]
        split <;> rfl
      rw [e]
      cases hf : kvs.find? (fun kv => decide (kv.1 = k')) with
      | none => rfl
      | some q =>
        have hq : q.1 = k' := by simpa using List.find?_some hf
        have hn : q.1 ≠ k := fun h => hk (hq.symm.trans h)
        simp only [Option.map_some, if_neg hn]
  · rw [if_neg ha, List.find?_append]
    have hnone : k' = k → kvs.find? (fun kv => decide (kv.1 = k')) = none := fun h => by
      subst h
      rw [List.find?_eq_none]
      intro q hq hq2
      exact ha (List.any_eq_true.mpr ⟨q, hq, hq2⟩)
    by_cases hk : k' = k
    · rw [hnone hk, if_pos hk]
      simp [hk]
    · rw [if_neg hk]
      cases hf : kvs.find? (fun kv => decide (kv.1 = k')) with
      | none =>
        have : (k = k') ↔ False := ⟨fun h => hk h.symm, False.elim⟩
        simp [this]
      | some q => rfl
def posOf (cs : List Nat) (c : Nat) : List Nat := (List.range 5).filter fun i => cs.getD i 0 == c
theorem posOf_mem {cs : List Nat} {c i : Nat} : i ∈ posOf cs c ↔ i < 5 ∧ cs.getD i 0 = c := by
  unfold posOf
  rw [List.mem_filter, List.mem_range, beq_iff_eq]
theorem posOf_nodup (cs : List Nat) (c : Nat) : (posOf cs c).Nodup := List.Nodup.sublist List.filter_sublist List.nodup_range
def pvIx (P : List Nat) (k : Nat) : Nat := P.getD (if k = 0 then P.length - 1 else k - 1) 0
def pv (cs : List Nat) (i : Nat) : Nat := pvIx (posOf cs (cs.getD i 0)) ((posOf cs (cs.getD i 0)).idxOf i)
theorem pv_at {cs : List Nat} {c k i : Nat} (h : (posOf cs c)[k]? = some i) : pv cs i = pvIx (posOf cs c) k := by
  have hm := posOf_mem.mp (List.mem_of_getElem? h)
  unfold pv
  rw [hm.2]
  obtain ⟨hk, e⟩ := List.getElem?_eq_some_iff.mp h
  rw [← e, (posOf_nodup cs c).idxOf_getElem k hk]
theorem pv_lt {cs : List Nat} {i : Nat} (hi : i < 5) : pv cs i < 5 := by
  unfold pv pvIx
  have hm : i ∈ posOf cs (cs.getD i 0) := posOf_mem.mpr ⟨hi, rfl⟩
  have hl := List.length_pos_of_mem hm
  have hx := List.idxOf_lt_length_of_mem hm
  rw [getD_el _ _ (by split <;> omega)]
  exact (posOf_mem.mp (List.getElem_mem _)).1
theorem str1_inj {a b : Nat} (h : (⟨#[a]⟩ : Str) = ⟨#[b]⟩) : a = b := by
  have : (⟨#[a]⟩ : Str).cps.toList = (⟨#[b]⟩ : Str).cps.toList := by rw [h]
  exact List.head_eq_of_cons_eq this
theorem dig_inj {a b : Nat} (h : dig a = dig b) : a = b := by
  have := str1_inj h
  omega
theorem rows_pos {cs : List Nat} {rows : List (Str × Str)} (h : RowsL cs 5 rows) (hcs : cs.length = 5) (c : Nat) : (rows.filter fun r => Txt.lower r.1 == (⟨#[c]⟩ : Str)).map (·.2) = (posOf cs c).map dig := by
  obtain ⟨hl, hr⟩ := h
  have e : rows = (List.range 5).map fun i => rows.getD i (dig 0, dig 0) := by
    refine List.ext_getElem (by rw [hl]; simp) fun i h1 h2 => ?_
    rw [List.getElem_map, List.getElem_range, getD_el _ _ h1]
  have key : ∀ i, i < 5 → Txt.lower (rows.getD i (dig 0, dig 0)).1 = ⟨#[cs.getD i 0]⟩ ∧ (rows.getD i (dig 0, dig 0)).2 = dig i := by
    intro i hi
    obtain ⟨r, e1, e2, e3, _⟩ := hr i (cs.getD i 0) hi (by rw [List.getElem?_eq_getElem (by omega), getD_el _ _ (by omega)])
    rw [List.getD_eq_getElem?_getD, e1]
    exact ⟨e2, e3⟩
  rw [e, List.filter_map, List.map_map]
  unfold posOf
  have e2 : (List.range 5).filter ((fun r : Str × Str => Txt.lower r.1 == (⟨#[c]⟩ : Str)) ∘ fun i => rows.getD i (dig 0, dig 0)) = (List.range 5).filter fun i => cs.getD i 0 == c := by
    refine List.filter_congr fun i hi => ?_
    simp only [Function.comp_apply, (key i (List.mem_range.mp hi)).1]
    rw [Bool.eq_iff_iff, beq_iff_eq, beq_iff_eq]
    exact ⟨str1_inj, fun h => by rw [h]⟩
  rw [e2]
  refine List.map_congr_left fun i hi => ?_
  exact (key i (List.mem_range.mp (List.mem_filter.mp hi).1)).2
/-- a dict of figures: the value is the figure of f -/
def KvF (f : Nat → Nat) (S : Nat → Prop) (kvs : List (Str × Value)) : Prop := ∀ i, S i → ∃ t, valueAt kvs (dig i) = some (.str (dig (f i)) t)
theorem KvF.put {f : Nat → Nat} {S S' : Nat → Prop} {kvs : List (Str × Value)} (h : KvF f S kvs) (j : Nat) (t : Tok) (hS : ∀ i, S' i → S i ∨ i = j) : KvF f S' (stored kvs (dig j) (.str (dig (f j)) t)) := by
  intro i hi
  rw [stored_at]
  by_cases e : dig i = dig j
  · rw [if_pos e, dig_inj e]
    exact ⟨t, rfl⟩
  · rw [if_neg e]
    rcases hS i hi with h' | h'
    · exact h i h'
    · exact absurd (congrArg dig h') e
def zeros (nm : List Nat) : Nat := nm.countP (· == 0)
/-- a dict from figures to letters: 0 where there is none -/
def KvN (nm : List Nat) (kvs : List (Str × Value)) : Prop := nm.length = 5 ∧ kvs.length + zeros nm ≤ 5 ∧ ∀ i, i < 5 → if nm.getD i 0 = 0 then valueAt kvs (dig i) = none else ∃ t, valueAt kvs (dig i) = some (.str ⟨#[nm.getD i 0]⟩ t)
theorem zeros_set {nm : List Nat} {i c : Nat} (hi : i < nm.length) (h0 : nm.getD i 0 = 0) (hc : c ≠ 0) : zeros (nm.set i c) + 1 = zeros nm := by
  unfold zeros
  rw [getD_el _ _ hi] at h0
  rw [List.countP_set hi]
  have h1 : 0 < nm.countP (· == 0) := List.countP_pos_iff.mpr ⟨nm[i], List.getElem_mem _, by rw [h0]; rfl⟩
  have h2 : (c == 0) = false := by simp [hc]
  rw [h0, h2]
  simp only [beq_self_eq_true, if_true, Bool.false_eq_true, if_false]
  omega
theorem KvN.put {nm : List Nat} {kvs : List (Str × Value)} (h : KvN nm kvs) {j c : Nat} (hj : j < 5) (h0 : nm.getD j 0 = 0) (hc : c ≠ 0) (t : Tok) : KvN (nm.set j c) (stored kvs (dig j) (.str ⟨#[c]⟩ t)) := by
  obtain ⟨h1, h2, h3⟩ := h
  refine ⟨by rw [List.length_set]; exact h1, ?_, fun i hi => ?_⟩
  · have := stored_length_le kvs (dig j) (.str ⟨#[c]⟩ t)
    have := zeros_set (nm := nm) (i := j) (c := c) (by omega) h0 hc
    omega
  · rw [stored_at]
    by_cases e : i = j
    · subst e
      have e2 : (nm.set i c).getD i 0 = c := by
        rw [getD_el _ _ (by rw [List.length_set]; omega), List.getElem_set_self]
      rw [e2, if_neg hc, if_pos rfl]
      exact ⟨t, rfl⟩
    · have e2 : (nm.set j c).getD i 0 = nm.getD i 0 := by
        rw [List.getD_eq_getElem?_getD, List.getElem?_set_ne (fun h => e h.symm), ← List.getD_eq_getElem?_getD]
      rw [e2, if_neg (fun h : dig i = dig j => e (dig_inj h))]
      exact h3 i hi
end Mine
end
section
open PySem PySem.W PyProof.Rows
set_option Elab.async false
set_option maxRecDepth 100000
namespace Mine
def lawBody : List Stmt := lastBody PySem.Challenge.pw_pg0249_01.main.body
def lawScope : Scope := lastScope PySem.Challenge.pw_pg0249_01.main.body
abbrev lawE (L fa : Addr) (cdv : Value) : Env := envOfC (Str.ofString "law") lawScope L fa cdv
abbrev lawA (L fa : Addr) (cdv : Value) : Around := callerA.deeper (lawE L fa cdv)
/-- a number's letter -/
def ltr (v : Int) : Nat := 97 + (Int.fmod v 5).toNat
def wordL (ns : List Int) : List Nat := ns.map ltr
def strOf (l : List Nat) : Str := ⟨l.toArray⟩
theorem ints_get {vs : List Value} {ns : List Int} (h : IntsAre vs ns) {i : Nat} {v : Value} (e : vs[i]? = some v) : ∃ k t, v = .int k t ∧ ns[i]? = some k := by
  induction h generalizing i with
  | nil => simp at e
  | cons n t _ ih =>
    cases i with
    | zero =>
      simp at e
      exact ⟨n, t, e.symm, rfl⟩
    | succ i => exact ih (by simpa using e)
theorem ints_snoc {vs : List Value} {ns : List Int} (h : IntsAre vs ns) (k : Int) (t : Tok) : IntsAre (vs ++ [.int k t]) (ns ++ [k]) := by
  induction h with
  | nil => exact .cons k t .nil
  | cons n t _ ih => exact .cons n t ih
theorem take_snoc {α : Type} {l : List α} {i : Nat} {a : α} (e : l[i]? = some a) : l.take (i + 1) = l.take i ++ [a] := by
  rw [List.take_add_one, e]
  rfl
theorem ltr_at {v : Int} : (⟨#[(Str.ofString "abcde").cps.getD (Int.fmod v 5).toNat 0]⟩ : Str) = ⟨#[ltr v]⟩ := by
  have h0 : 0 ≤ Int.fmod v 5 := Int.fmod_nonneg_of_pos _ (by decide)
  have h1 : Int.fmod v 5 < 5 := Int.fmod_lt_of_pos _ (by decide)
  unfold ltr
  generalize Int.fmod v 5 = r at *
  have hr : r.toNat < 5 := by omega
  generalize r.toNat = k at hr
  match k, hr with
  | 0, _ => rfl
  | 1, _ => rfl
  | 2, _ => rfl
  | 3, _ => rfl
  | 4, _ => rfl
theorem ltr_le (v : Int) : 97 ≤ ltr v ∧ ltr v ≤ 101 := by
  have h0 : 0 ≤ Int.fmod v 5 := Int.fmod_nonneg_of_pos _ (by decide)
  have h1 : Int.fmod v 5 < 5 := Int.fmod_lt_of_pos _ (by decide)
  unfold ltr
  omega
end Mine
end
section
open PySem PySem.W PyProof.Rows PyProof.V PySem.Calls PyProof.Rows.LCg
set_option Elab.async false
set_option maxRecDepth 100000
namespace Mine
section
variable {prog : Program} {w : World} {A : Around} {E : Value → Shared → Prop} {s : Shared} {h₀ : Heap} {L : Addr} {m : Str → Option Value} {env : Env}
/-- what a comprehension with one target asks of a text -/
structure SrcS (prog : Program) (w : World) (A : Around) (h₀ : Heap) (L : Addr) (m : Str → Option Value) (env : Env) (elt : PySem.Expr) (x : Str) (scope : Scope) (cl : List (Str × Addr)) (Q : Value → Shared → Prop) (xv : Value) (s₁ : Shared) : Prop where
  go : ∃ (y : Str) (t : Tok) (news : List (Addr × Obj)), xv = .str y t ∧ A.handled = none ∧ Fr h₀ L s₁.heap m ∧ News h₀ L s₁.heap news ∧ y.cps.all (· < 128) = true ∧ y.cps.size ≤ sizeLine ∧
    ∀ s₂ : Shared, (∃ h, s₂ = { s₁ with heap := h }) → CompRest prog w A h₀ L m env elt x scope cl s₂ (fun _ => True) (SignAt y) (FinE h₀ L m s₂ Q) y.cps.size 0 [] news
theorem ListComp_S {elt iter : PySem.Expr} {x : Str} {px : Pos} {scope : Scope} {cl : List (Str × Addr)} {pos : Pos} {Q : Value → Shared → Prop} (F₀ : Fr h₀ L s.heap m)
    (hclos : closureFor scope env = pure cl) (hcell : ∀ y ∈ scope.names, y.2 ≠ .cell) (hkind : scope.kind = .function)
    (hnames : ∀ y ∈ scope.names, y.2 = .local → scope.names.lookup y.1 = some .local) (hx : scope.names.lookup x = some .local)
    (h : wpAny (model prog w) A (eval iter env) (SrcS prog w A h₀ L m env elt x scope cl Q) E s)
    (hs : ∀ x, foldedSetIterable iter env x = pure x := by intro _; rfl) :
    wpAny (model prog w) A (eval (.ListComp elt [⟨.Name x px, iter, [], 0⟩] scope pos) env) Q E s := by
  rw [eval_ListComp]
  refine wpAny_comprehension_free (use := none) rfl hs hclos hkind hnames (wpAny_mono h (fun xv s₁ h₁ => ?_) fun _ _ e => e)
  obtain ⟨y, t, news, rfl, hh, F, N, ha, hsz, R⟩ := h₁.go
  refine wpAny_pyIter_ascii ha ?_
  refine block_U (Walks.strAscii hh s₁.heap.objs.size y t) hsz (fun i h st => by obtain ⟨o, e, _⟩ := st; exact ⟨o, e⟩) (fun i h h' o nw st e e' _ _ _ => by obtain ⟨o', q, r⟩ := st; rw [e] at q; cases q; exact ⟨o, e', r⟩) hcell hkind hx ⟨_, Heap.get?_push_size _ rfl, rfl, rfl⟩ (fun b hb => ?_)
    (F.keeps fun _ _ e => Heap.get?_push_of_some _ e) (N.grown fun _ _ e => Heap.get?_push_of_some _ e) (Nat.ne_of_lt F.ns.lt) (next_is_new F) (fun p hp => Nat.ne_of_lt (Heap.lt_size (N p hp).1)) trivial (R _ ⟨_, rfl⟩) ?_
  · rw [List.mem_singleton.mp hb]
    show s₁.heap.objs.size < (s₁.heap.push _).objs.size
    rw [Heap.size_push]; exact Nat.lt_succ_self _
  · intro D C h tk m' ys news' F' N' o1 hn hC₀ hD₀ hCL hDL hCD offC fin
    refine ⟨m', hn, fun h'' hs'' => fin D h'' tk (F'.change hs'' hCL hC₀) (fun p hp => ?_) o1⟩
    refine ⟨hs''.extBut _ _ ?_ (N' p hp).1, (N' p hp).2⟩
    rcases List.mem_cons.mp hp with rfl | hp
    · exact Ne.symm hCD
    · exact offC p hp
end
end Mine
end
theorem Mine.slate7 : True := by first | walk1 | trivial
section
open PySem PySem.W PyProof.Rows
set_option Elab.async false
set_option maxRecDepth 100000
set_option maxHeartbeats 8000000
set_option pp.deepTerms true
set_option pp.proofs false
namespace Mine
/-- from the place of a letter on, round its ring, till a place that has a name -/
def ringRun (σ : Nat → Nat) (c : Nat) : Nat → List Nat → Nat → List Nat
  | 0, nm, _ => nm
  | k + 1, nm, pl => if nm.getD pl 0 = 0 then ringRun σ c k (nm.set pl c) (σ pl) else nm
def sg (cs : List Nat) (i : Nat) : Nat := pv cs ((i + 1) % 5)
def secN (cs : List Nat) : Nat → List Nat
  | 0 => [0, 0, 0, 0, 0]
  | i + 1 => ringRun (sg cs) (112 + i) 5 (secN cs i) i
theorem sg_lt {cs : List Nat} {i : Nat} : sg cs i < 5 := pv_lt (Nat.mod_lt _ (by decide))
theorem zeros_le (nm : List Nat) : zeros nm ≤ nm.length := List.countP_le_length
theorem ring_stop {σ : Nat → Nat} {c k pl : Nat} {nm : List Nat} (h : nm.getD pl 0 ≠ 0) : ringRun σ c k nm pl = nm := by
  cases k with
  | zero => rfl
  | succ k => exact if_neg h
theorem zeros_pos {nm : List Nat} {pl : Nat} (hp : pl < nm.length) (h : nm.getD pl 0 = 0) : 0 < zeros nm := by
  unfold zeros
  rw [getD_el _ _ hp] at h
  exact List.countP_pos_iff.mpr ⟨nm[pl], List.getElem_mem _, by rw [h]; rfl⟩
theorem pqrst_at {i c : Nat} (hi : i < 5) (h : (Str.ofString "pqrst").cps[i]? = some c) : c = 112 + i := by
  match i, hi, h with
  | 0, _, h => cases (show some 112 = some c from h); rfl
  | 1, _, h => cases (show some 113 = some c from h); rfl
  | 2, _, h => cases (show some 114 = some c from h); rfl
  | 3, _, h => cases (show some 115 = some c from h); rfl
  | 4, _, h => cases (show some 116 = some c from h); rfl
theorem dig_int {i : Nat} (hi : i < 5) : PySem.intText? (dig i) = some ((i : Int) + 1) := by
  match i, hi with
  | 0, _ => decide +kernel
  | 1, _ => decide +kernel
  | 2, _ => decide +kernel
  | 3, _ => decide +kernel
  | 4, _ => decide +kernel
theorem next_at {i : Nat} (hi : i < 5) : (⟨#[(Str.ofString "23451").cps.getD i 0]⟩ : Str) = dig ((i + 1) % 5) := by
  match i, hi with
  | 0, _ => rfl
  | 1, _ => rfl
  | 2, _ => rfl
  | 3, _ => rfl
  | 4, _ => rfl
local macro_rules | `(tactic| walk_at "call type:zip") => `(tactic| (k_here; refine Hold.out ?_))
local macro_rules | `(tactic| walk_at "exec While") => `(tactic| (k_here; refine Hold.out ?_))
local macro_rules | `(tactic| walk_at "compareOp NotIn str ref") => `(tactic| (k_here; refine Hold.out ?_))
local macro_rules | `(tactic| walk_at "setItem ref str") => `(tactic| (k_here; refine Hold.out ?_))
local macro_rules | `(tactic| walk_at "subscriptTail") => `(tactic| (k_here; refine Hold.out ?_))
local macro_rules | `(tactic| walk_at "call type:int") => `(tactic| (k_here; refine Hold.out ?_))
local macro_rules | `(tactic| walk_at "UnrEndW") => `(tactic| (refine Hold.out ?_))
theorem sec5 {w : World} {p : Program} {loose : List Str} {mean : ExcName → Option Value} {mg mb : Str → Option Value} (dp un : Nat) (gd : Option (List Code)) (cn : Str) (cs : Scope) (a : Addr) (ccd : Value) (cl : List (Str × Addr)) (outer : List Env) (base g' : Heap) (L L' : Addr) (m : Str → Option Value) (s : Shared) (Q : Flow → Shared → Prop) (E : Value → Shared → Prop)
    (x : Str) (d dn l : Addr) (od on c1 lo : Obj) (kvs : List (Str × Value))
    (B' : Below (ktrTop dp un gd cn cs L a ccd cl outer) base (envX cn cs L a ccd cl :: outer) g') (F : Fr g' L' s.heap m) (X' : (hd1.heap_39 w.params).In g') (T' : Top p loose mean mg mb g') (hk : cs.kind = .function) (hd : dp + 100 < recursionLimit) (hu : un + 1000 < cLine)
    (N : News g' L' s.heap [(L' + 1, c1), (d, od), (dn, on), (l, lo)]) (n1 : L' + 1 ≠ dn) (n2 : d ≠ dn) (n3 : l ≠ dn) (d1 : c1.data = .cell (some (.ref dn)))
    (hdo : od.IsDictOf (strKind PySem.Challenge.rw_pg0249_01.row.prog w) kvs) (hkv : KvF (pv x.cps.toList) (· < 5) kvs)
    (hdn : on.IsDictOf (strKind PySem.Challenge.rw_pg0249_01.row.prog w) []) (low : (dn == sysModules) = false)
    (m3 : m (Str.ofString "ahead") = some (.ref d))
    (hE : PassesOwn (model PySem.Challenge.rw_pg0249_01.row.prog w) ((ktrTop dp un gd cn cs L a ccd cl outer).deeper (sEnv L')) (sEnv L') E)
    (hret : ∀ m' h tk o kvs, Fr g' L' h m' → News g' L' h [(L' + 1, c1), (dn, o), (l, lo)] → o.IsDictOf (strKind PySem.Challenge.rw_pg0249_01.row.prog w) kvs → KvN (secN x.cps.toList 5) kvs →
      Q .next { s with heap := h, toks := tk }) :
    wpAny (model PySem.Challenge.rw_pg0249_01.row.prog w) ((ktrTop dp un gd cn cs L a ccd cl outer).deeper (sEnv L')) (exec (nthS sBody 5) (sEnv L')) Q E s := by
  revert X'; k_fill; intro X'
  have eS : sScope = sScope := rfl
  have eB : nthS sBody 5 = nthS sBody 5 := rfl
  (conv at eS => rhs; whnf)
  (conv at eB => rhs; whnf)
  unfold sEnv at hE ⊢
  rw [eS] at hE ⊢
  rw [eB]
  clear eS eB
  obtain ⟨m, rfl⟩ := see_eq m3
  clear m3
  (with_unfolding_all refine' For_turns F ?_ ?_ ?_; k_whole)
  k_steps
  refine Hold.mk ?_
  (with_reducible rename Fr _ _ _ _ => F1)
  (with_reducible rename News g' _ _ (_ :: _) => N1)
  refine turns_zipSS (n := 5) (by rfl) (by decide +kernel) (by decide +kernel) (by decide +kernel) F1 N1 (fun i m' news' => ∃ o kvs', news' = [(L' + 1, c1), (d, od), (dn, o), (l, lo)] ∧ o.IsDictOf (strKind PySem.Challenge.rw_pg0249_01.row.prog w) kvs' ∧ KvN (secN x.cps.toList i) kvs' ∧ m' (Str.ofString "ahead") = some (.ref d)) ?_ ?_ ?_
  · exact ⟨on, [], rfl, hdn, ⟨rfl, Nat.le_refl 5, fun i hi => by
      have : (secN x.cps.toList 0).getD i 0 = 0 := by
        match i, hi with
        | 0, _ => rfl
        | 1, _ => rfl
        | 2, _ => rfl
        | 3, _ => rfl
        | 4, _ => rfl
      rw [if_pos this]
      rfl⟩, rfl⟩
  · rintro I hI i m₁ news₁ c e hi hc he ⟨o, kvs', rfl, j1, j2, j3⟩ T t u h tk hT F2
    refine AllObj.cons fun o1 z1 => ?_
    refine AllObj.cons fun o2 z2 => ?_
    refine AllObj.cons fun o3 z3 => ?_
    refine AllObj.cons fun o4 z4 => ?_
    refine AllObj.cons fun o5 z5 => ?_
    refine AllObj.nil ?_
    intro N2
    obtain ⟨m₁, rfl⟩ := see_eq j3
    clear F1 N1 j3
    rw [dig_get hi he] at hT
    have hc := pqrst_at hi hc
    subst hc
    (try simp only [List.cons_append, List.nil_append] at N2)
    (try dsimp only)
    k_steps
    refine Hold.mk ?_
    (with_reducible rename Fr g' _ _ _ => F9)
    (with_reducible rename News g' _ _ _ => N9)
    have hs5 : zeros (secN x.cps.toList i) ≤ 5 := Nat.le_trans (zeros_le _) (Nat.le_of_eq j2.1)
    have hn2 : d ≠ dn := n2
    have hIn : ∀ q ∈ [(L' + 1, c1), (d, od), (dn, on), (l, lo)], q.1 < I := hI
    have hIc : L' + 1 < I := hI _ (.head _)
    have hId : d < I := hI _ (.tail _ (.head _))
    have hIl : l < I := hI (l, lo) (.tail _ (.tail _ (.tail _ (.head _))))
    have hIn : dn < I := hI (dn, on) (.tail _ (.tail _ (.head _)))
    refine While_inv2 (n₀ := 5) (fun k m' news' => ∃ nm pl o kvs' tp, news' = [(I + 4, o1), (I + 2, o2), (I + 3, o3), (I, o4), (I + 1, o5), (L' + 1, c1), (d, od), (dn, o), (l, lo)] ∧ o.IsDictOf (strKind PySem.Challenge.rw_pg0249_01.row.prog w) kvs' ∧ KvN nm kvs' ∧ ringRun (sg x.cps.toList) (112 + i) k nm pl = secN x.cps.toList (i + 1) ∧ zeros nm ≤ k ∧ pl < 5 ∧
      m' (Str.ofString "ahead") = some (.ref d) ∧ m' (Str.ofString "place") = some (.str (dig pl) tp) ∧ m' (Str.ofString "letter") = some (.str ⟨#[112 + i]⟩ t)) F9 N9 ⟨secN x.cps.toList i, i, o, kvs', u, rfl, j1, j2, rfl, hs5, hi, rfl, rfl, rfl⟩ ?_
    clear F9 N9
    intro k m2 news2 h2 tk2 F2 N2 J2
    obtain ⟨nm, pl, o8, kv8, tp, rfl, i1, i2, i3, i4, i5, i6, i7, i8⟩ := J2
    obtain ⟨m2, rfl⟩ := see_eq i6
    replace i7 := see_in i7 (by decide)
    replace i8 := see_in i8 (by decide)
    obtain ⟨m2, rfl⟩ := see_eq i7
    replace i8 := see_in i8 (by decide)
    obtain ⟨m2, rfl⟩ := see_eq i8
    clear i6 i7 i8
    have i2' := i2
    obtain ⟨l1, l2, l3⟩ := i2'
    have l3' := l3 pl i5
    by_cases h0 : nm.getD pl 0 = 0
    · rw [if_pos h0] at l3'
      have hz := zeros_pos (by rw [l1]; exact i5) h0
      obtain ⟨k, rfl⟩ : ∃ k', k = k' + 1 := ⟨k - 1, by omega⟩
      have i3' : ringRun (sg x.cps.toList) (112 + i) k (nm.set pl (112 + i)) (sg x.cps.toList pl) = secN x.cps.toList (i + 1) := by
        rw [← i3]
        exact (if_pos h0).symm
      have hz2 := zeros_set (nm := nm) (i := pl) (c := 112 + i) (by rw [l1]; exact i5) h0 (by omega)
      k_steps
      refine Hold.mk ?_
      (with_reducible rename Fr g' _ _ _ => F9)
      (with_reducible rename News g' _ _ _ => N9)
      refine kdg_notin (kvs := kv8) N9 (by k_mem) i1 low (strKind_is _ _ _ _) false (by rw [l3']; rfl) ?_
      have hU : UpdF dn o8 ([(I + 4, o1), (I + 2, o2), (I + 3, o3), (I, o4), (I + 1, o5), (L' + 1, c1), (d, od)] ++ (dn, o8) :: [(l, lo)]) (fun o' => [(I + 4, o1), (I + 2, o2), (I + 3, o3), (I, o4), (I + 1, o5), (L' + 1, c1), (d, od)] ++ (dn, o') :: [(l, lo)]) := by
        refine updF_mk ?_ fun p hp => by rw [List.mem_singleton.mp hp]; exact n3
        intro p hp
        simp only [List.mem_cons, List.not_mem_nil, or_false] at hp
        rcases hp with rfl | rfl | rfl | rfl | rfl | rfl | rfl
        · exact Nat.ne_of_gt (Nat.lt_of_lt_of_le hIn (Nat.le_add_right _ _))
        · exact Nat.ne_of_gt (Nat.lt_of_lt_of_le hIn (Nat.le_add_right _ _))
        · exact Nat.ne_of_gt (Nat.lt_of_lt_of_le hIn (Nat.le_add_right _ _))
        · exact Nat.ne_of_gt hIn
        · exact Nat.ne_of_gt (Nat.lt_of_lt_of_le hIn (Nat.le_add_right _ _))
        · exact n1
        · exact hn2
      simp only [List.cons_append, List.nil_append] at hU
      k_steps
      refine Hold.mk ?_
      (with_reducible rename Fr g' _ _ _ => F9)
      (with_reducible rename News g' _ _ _ => N9)
      refine kda_set F9 N9 hU i1 (strKind_is _ _ _ _) (by rw [sizeLine_eq]; omega) ?_
      intro h7 o7 F7 N7 hd7
      (try dsimp only at N7)
      have i2n := i2.put i5 h0 (c := 112 + i) (by omega) t
      k_steps
      refine Hold.mk ?_
      refine KIN.call_text (dig_int i5) (Nat.le_of_ble_eq_true rfl) ?_
      k_steps
      refine Hold.mk ?_
      refine str_item (by omega) (by rw [show (Str.ofString "23451").length = 5 from by decide]; omega) (Nat.le_of_ble_eq_true rfl) ?_ (by with_unfolding_all rfl) (by intro _; with_unfolding_all rfl)
      rw [show ((pl : Int) + 1 - 1).toNat = pl by omega, next_at i5]
      have hsl : (pl + 1) % 5 < 5 := Nat.mod_lt _ (by decide)
      obtain ⟨t8, hv8⟩ := hkv ((pl + 1) % 5) hsl
      k_steps
      refine Hold.mk ?_
      (with_reducible rename Fr g' _ _ _ => F9)
      (with_reducible rename News g' _ _ _ => N9)
      refine kdt_tail (kvs := kvs) N9 (by k_mem) hdo (kdt_getItem N9 (by k_mem) hdo (strKind_is _ _ _ _) hv8 ?_)
      k_steps
      (with_reducible rename Fr g' _ _ _ => F9)
      (with_reducible rename News g' _ _ _ => N9)
      exact ⟨_, _, _, _, k, rfl, F9, N9, Nat.lt_succ_self _, _, sg x.cps.toList pl, o7, _, _, rfl, hd7, i2n, i3', by omega, sg_lt, rfl, if_pos rfl, rfl⟩
    · rw [if_neg h0] at l3'
      obtain ⟨t9, l3'⟩ := l3'
      rw [ring_stop h0] at i3
      k_steps
      refine Hold.mk ?_
      (with_reducible rename Fr g' _ _ _ => F9)
      (with_reducible rename News g' _ _ _ => N9)
      refine kdg_notin (kvs := kv8) N9 (by k_mem) i1 low (strKind_is _ _ _ _) true (by rw [l3']; rfl) ?_
      k_steps
      refine Hold.mk ?_
      (with_reducible rename Fr g' _ _ _ => F9)
      (with_reducible rename News g' _ _ _ => N9)
      subst i3
      refine endZ F9 N9 [(L' + 1, c1), (d, od), (dn, o8), (l, lo)] (fun p hp => hp) ?_ ⟨(fun p hp => nomatch hp), o8, kv8, rfl, i1, i2, rfl⟩
      intro p hp q hq
      have h1 : p.1 < I := by
        rcases List.mem_cons.mp hp with rfl | hp
        · exact hIc
        rcases List.mem_cons.mp hp with rfl | hp
        · exact hId
        rcases List.mem_cons.mp hp with rfl | hp
        · exact hIn
        · rw [List.mem_singleton.mp hp]
          exact hIl
      have h2 : I ≤ q.1 := by
        simp only [List.mem_cons, List.not_mem_nil, or_false] at hq
        rcases hq with rfl | rfl | rfl | rfl | rfl
        · exact Nat.le_add_right _ _
        · exact Nat.le_add_right _ _
        · exact Nat.le_add_right _ _
        · exact Nat.le_refl _
        · exact Nat.le_add_right _ _
      exact Nat.ne_of_lt (Nat.lt_of_lt_of_le h1 h2)
  · rintro m₁ news₁ ⟨o, kvs', rfl, j1, j2, j3⟩ h tk F2 N2
    exact hret m₁ h tk o kvs' F2 (fun p hp => N2 p (by
      rcases List.mem_cons.mp hp with rfl | hp
      · exact .head _
      · exact .tail _ (.tail _ hp))) j1 j2
end Mine
end
theorem Mine.slate8 : True := by first | walk1 | trivial
section
open PySem PySem.W PyProof.Rows
set_option Elab.async false
set_option maxRecDepth 100000
set_option maxHeartbeats 8000000
set_option pp.deepTerms true
set_option pp.proofs false
namespace Mine
theorem set_get {nm : List Nat} {c i pl : Nat} (h : nm.getD i 0 ≠ 0) (hc : c ≠ 0) : (nm.set pl c).getD i 0 ≠ 0 := by
  rw [List.getD_eq_getElem?_getD] at h ⊢
  rw [List.getElem?_set]
  split
  · split
    · exact hc
    · rename_i h1 h2
      rw [← h1] at h
      rw [List.getElem?_eq_none (by omega)] at h
      exact h
  · exact h
theorem ring_keeps {σ : Nat → Nat} {c : Nat} (hc : c ≠ 0) : ∀ (k : Nat) {nm : List Nat} {pl i : Nat}, nm.getD i 0 ≠ 0 → (ringRun σ c k nm pl).getD i 0 ≠ 0
  | 0, _, _, _, h => h
  | k + 1, nm, pl, i, h => by
    unfold ringRun
    split
    · exact ring_keeps hc k (set_get h hc)
    · exact h
theorem ring_len {σ : Nat → Nat} {c : Nat} : ∀ (k : Nat) {nm : List Nat} {pl : Nat}, (ringRun σ c k nm pl).length = nm.length
  | 0, _, _ => rfl
  | k + 1, nm, pl => by
    unfold ringRun
    split
    · rw [ring_len k, List.length_set]
    · rfl
theorem ring_start {σ : Nat → Nat} {c : Nat} (hc : c ≠ 0) {k : Nat} {nm : List Nat} {pl : Nat} (hp : pl < nm.length) : (ringRun σ c (k + 1) nm pl).getD pl 0 ≠ 0 := by
  unfold ringRun
  split
  · refine ring_keeps hc k ?_
    rw [getD_el _ _ (by rw [List.length_set]; exact hp), List.getElem_set_self]
    exact hc
  · assumption
theorem secN_len (cs : List Nat) : ∀ i, (secN cs i).length = 5
  | 0 => rfl
  | i + 1 => (ring_len 5).trans (secN_len cs i)
theorem secN_has (cs : List Nat) : ∀ i, i ≤ 5 → ∀ j, j < i → (secN cs i).getD j 0 ≠ 0
  | 0, _, _, hj => absurd hj (Nat.not_lt_zero _)
  | i + 1, hi, j, hj => by
    show (ringRun (sg cs) (112 + i) 5 (secN cs i) i).getD j 0 ≠ 0
    rcases Nat.lt_or_ge j i with h | h
    · exact ring_keeps (by omega) 5 (secN_has cs i (by omega) j h)
    · have e : j = i := by omega
      subst e
      exact ring_start (by omega) (by rw [secN_len]; omega)
/-- the second parting of a word, as the law's function tells it -/
def secondOf (x : Str) : Str := ⟨(secN x.cps.toList 5).toArray⟩
theorem join_ones {l : List Nat} (h : l.length = 5) : Txt.join (Str.ofString "") (l.map fun c => (⟨#[c]⟩ : Str)) = ⟨l.toArray⟩ := by
  obtain ⟨a, l, rfl⟩ := List.exists_cons_of_length_eq_add_one h
  obtain ⟨b, l, rfl⟩ := List.exists_cons_of_length_eq_add_one (Nat.succ.inj h)
  obtain ⟨c, l, rfl⟩ := List.exists_cons_of_length_eq_add_one (Nat.succ.inj (Nat.succ.inj h))
  obtain ⟨d, l, rfl⟩ := List.exists_cons_of_length_eq_add_one (Nat.succ.inj (Nat.succ.inj (Nat.succ.inj h)))
  obtain ⟨e, l, rfl⟩ := List.exists_cons_of_length_eq_add_one (Nat.succ.inj (Nat.succ.inj (Nat.succ.inj (Nat.succ.inj h))))
  have : l = [] := List.eq_nil_of_length_eq_zero (Nat.succ.inj (Nat.succ.inj (Nat.succ.inj (Nat.succ.inj (Nat.succ.inj h)))))
  subst this
  rfl
theorem ones_sum {l : List Nat} (h : l.length = 5) : ((l.map fun c => (⟨#[c]⟩ : Str)).map (·.length)).sum + (l.map fun c => (⟨#[c]⟩ : Str)).length * (Str.ofString "").length ≤ 16777216 := by
  obtain ⟨a, l, rfl⟩ := List.exists_cons_of_length_eq_add_one h
  obtain ⟨b, l, rfl⟩ := List.exists_cons_of_length_eq_add_one (Nat.succ.inj h)
  obtain ⟨c, l, rfl⟩ := List.exists_cons_of_length_eq_add_one (Nat.succ.inj (Nat.succ.inj h))
  obtain ⟨d, l, rfl⟩ := List.exists_cons_of_length_eq_add_one (Nat.succ.inj (Nat.succ.inj (Nat.succ.inj h)))
  obtain ⟨e, l, rfl⟩ := List.exists_cons_of_length_eq_add_one (Nat.succ.inj (Nat.succ.inj (Nat.succ.inj (Nat.succ.inj h))))
  have : l = [] := List.eq_nil_of_length_eq_zero (Nat.succ.inj (Nat.succ.inj (Nat.succ.inj (Nat.succ.inj (Nat.succ.inj h)))))
  subst this
  exact Nat.le_of_ble_eq_true rfl
local macro_rules | `(tactic| walk_at "call builtin:str.join") => `(tactic| (k_here; refine Hold.out ?_))
local macro_rules | `(tactic| walk_at "eval ListComp") => `(tactic| (k_here; k_dflt (refine ListComp_S (F₀ := by k_asm) (by with_unfolding_all rfl) (by decide) (by rfl) (by decide) (by rfl) ?_)))
local macro_rules | `(tactic| walk_at "subscriptTail") => `(tactic| (k_here; refine Hold.out ?_))
theorem sec6 {w : World} {p : Program} {loose : List Str} {mean : ExcName → Option Value} {mg mb : Str → Option Value} (dp un : Nat) (gd : Option (List Code)) (cn : Str) (cs : Scope) (a : Addr) (ccd : Value) (cl : List (Str × Addr)) (outer : List Env) (base g' : Heap) (L L' : Addr) (m : Str → Option Value) (s : Shared) (Q : Flow → Shared → Prop) (E : Value → Shared → Prop)
    (x : Str) (dn l : Addr) (on c1 lo : Obj) (kvs : List (Str × Value))
    (B' : Below (ktrTop dp un gd cn cs L a ccd cl outer) base (envX cn cs L a ccd cl :: outer) g') (F : Fr g' L' s.heap m) (X' : (hd1.heap_39 w.params).In g') (T' : Top p loose mean mg mb g') (hk : cs.kind = .function) (hd : dp + 100 < recursionLimit) (hu : un + 1000 < cLine)
    (N : News g' L' s.heap [(L' + 1, c1), (dn, on), (l, lo)]) (d1 : c1.data = .cell (some (.ref dn)))
    (hdn : on.IsDictOf (strKind PySem.Challenge.rw_pg0249_01.row.prog w) kvs) (hkv : KvN (secN x.cps.toList 5) kvs)
    (hE : PassesOwn (model PySem.Challenge.rw_pg0249_01.row.prog w) ((ktrTop dp un gd cn cs L a ccd cl outer).deeper (sEnv L')) (sEnv L') E)
    (hret : ∀ h tk t, Fr g' L' h m → News g' L' h [(l, lo)] → Q (.ret (.str (secondOf x) t)) { s with heap := h, toks := tk }) :
    wpAny (model PySem.Challenge.rw_pg0249_01.row.prog w) ((ktrTop dp un gd cn cs L a ccd cl outer).deeper (sEnv L')) (exec (nthS sBody 6) (sEnv L')) Q E s := by
  revert X'; k_fill; intro X'
  have eS : sScope = sScope := rfl
  have eB : nthS sBody 6 = nthS sBody 6 := rfl
  (conv at eS => rhs; whnf)
  (conv at eB => rhs; whnf)
  unfold sEnv at hE ⊢
  rw [eS] at hE ⊢
  rw [eB]
  clear eS eB
  have hnz9 := secN_has x.cps.toList 5 (Nat.le_refl _)
  have hlen9 := secN_len x.cps.toList 5
  have hsec9 : (⟨(secN x.cps.toList 5).toArray⟩ : Str) = secondOf x := rfl
  generalize secN x.cps.toList 5 = nm at hkv hnz9 hlen9 hsec9
  have F1 := F
  have N1 := N
  k_steps
  refine SrcS.mk ⟨Str.ofString "12345", _, _, rfl, by rfl, by k_asm, by k_asm, by decide +kernel, by rw [sizeLine_eq]; decide +kernel, fun s₂ hs₂ => ?_⟩
  obtain ⟨gg, rfl⟩ := hs₂
  refine restU_ind (n := 5) (J := fun j ys => StrsAre ys ((nm.take j).map fun c => (⟨#[c]⟩ : Str))) trivial ?_ ?_ _ 0 [] (by rfl) .nil
  · intro i9 ys hi9 jy v I9 oI9 C9 oC9 D9 m₂ h9 tk9 E' hv hC hx F7 N7 off ne
    obtain ⟨c, u9, hc, rfl⟩ := hv
    (try simp only [LCg.Off3, and_true] at off)
    (try dsimp only)
    k_steps
    refine Hold.mk ?_
    obtain ⟨hkl, _, hk3⟩ := hkv
    have hk9 := hk3 i9 hi9
    have hnz := hnz9 i9 hi9
    rw [if_neg hnz] at hk9
    obtain ⟨t8, hv8⟩ := hk9
    rw [dig_get hi9 hc]
    refine kdt_tail (kvs := kvs) N7 (by k_mem) hdn (kdt_getItem N7 (by k_mem) hdn (strKind_is _ _ _ _) hv8 ?_)
    refine TurnEnd.intro F7 N7 (fun _ hp => hp) ?_
    rw [List.take_add_one, List.getElem?_eq_getElem (by rw [hkl]; exact hi9), List.map_append, ← getD_el _ 0 (by rw [hkl]; exact hi9)]
    exact strs_snoc jy _ _
  · intro ys jy D9 h9 tk9 F9 N9 off9
    (try simp only [LCg.Off1, and_true] at off9)
    (try dsimp only)
    k_steps
    refine Hold.mk ?_
    rw [List.take_of_length_le (Nat.le_of_eq hlen9)] at jy
    refine join_list ⟨_, (N9 _ (.head _)).1, rfl, _, rfl⟩ jy ?_ ?_
    · exact ones_sum hlen9
    · intro t8 k8
      rw [join_ones hlen9, hsec9]
      exact hret _ _ _ F9 (fun p hp => N9 p (.tail _ (.tail _ (.tail _ hp))))
end Mine
end
theorem Mine.slate9 : True := by first | walk1 | trivial
section
open PySem PySem.W PyProof.Rows
set_option Elab.async false
set_option maxRecDepth 100000
set_option maxHeartbeats 8000000
set_option pp.deepTerms true
set_option pp.proofs false
namespace Mine
local macro_rules | `(tactic| walk_at "eval ListComp") => `(tactic| (k_here; k_dflt (refine LCg.ListComp_U (F₀ := by k_asm) (by with_unfolding_all rfl) (by decide) (by rfl) (by decide) (by rfl) ?_)))
local macro_rules | `(tactic| walk_at "exec Assign cons ListComp") => `(tactic| (k_here; k_dflt (refine LCg.Assign_ListComp_U (F₀ := by k_asm) (by rfl) (by with_unfolding_all rfl) (by with_unfolding_all rfl) (by decide) (by rfl) (by decide) (by rfl) (by rfl) (by rfl) ?_)))
local macro_rules | `(tactic| walk_at "CompSrc") => `(tactic| (refine Hold.out ?_))
local macro_rules | `(tactic| walk_at "call builtin:str.join") => `(tactic| (k_here; refine Hold.out ?_))
local macro_rules | `(tactic| walk_at "subscriptTail") => `(tactic| (k_here; (with_reducible show wpAny _ _ (subscriptTail _ _ (Value.str _ _) (Value.int _ _)) _ _ _); refine Hold.out ?_))
theorem st1 {w : World} {p : Program} {loose : List Str} {mean : ExcName → Option Value} {mg mb : Str → Option Value} (fa : Addr) (cdv : Value) (base h₀ : Heap) (L : Addr) (m : Str → Option Value) (s : Shared) (Q : Flow → Shared → Prop) (E : Value → Shared → Prop)
    (l : Addr) (n : Nat) (vs : List Value) (ns : List Int)
    (B : Below callerA base [] h₀) (F : Fr h₀ L s.heap m) (X : (hd1.heap_39 w.params).In h₀) (T : Top p loose mean mg mb h₀)
    (N : News h₀ L s.heap [(l, listOf vs.toArray n)]) (hm : m (Str.ofString "numbers") = some (.ref l)) (hv : IntsAre vs ns) (hn : ns.length = 5)
    (hret : ∀ h tk t, Fr h₀ L h (fun y => if y = Str.ofString "word" then some (.str (strOf (wordL ns)) t) else m y) → News h₀ L h [(l, listOf vs.toArray n)] → Q .next { s with heap := h, toks := tk }) :
    wpAny (model PySem.Challenge.rw_pg0249_01.row.prog w) (lawA L fa cdv) (exec (nthS lawBody 1) (lawE L fa cdv)) Q E s := by
  revert X; k_fill; intro X
  have eS : lawScope = lawScope := rfl
  have eB : nthS lawBody 1 = nthS lawBody 1 := rfl
  (conv at eS => rhs; whnf)
  (conv at eB => rhs; whnf)
  unfold lawA lawE
  rw [eS, eB]
  clear eS eB
  have hvl := hv.length
  obtain ⟨m, rfl⟩ := see_eq hm
  k_steps
  refine Hold.mk ?_
  with_unfolding_all refine LCg.CompSrc.ledger (by rfl) (by k_asm) (by k_asm) (by k_mem) (by rw [sizeLine_eq]; simp only [List.size_toArray]; omega) ?_
  intro gg
  refine restU_ind (n := 5) (J := fun i ys => StrsAre ys (((wordL ns).take i).map fun c => (⟨#[c]⟩ : Str))) (Or.inr ⟨_, by k_mem, rfl, _, rfl⟩) ?_ ?_ _ 0 [] (by simp only [List.size_toArray]; omega) .nil
  · intro i ys hi j v I oI C oC D m₂ h tk E' hv' hC hx F N off ne
    obtain ⟨k, t, rfl, hk⟩ := ints_get hv (by simpa using hv')
    (try simp only [LCg.Off3, and_true] at off)
    (try dsimp only)
    k_steps
    refine Hold.mk ?_
    have q0 : 0 ≤ Int.fmod k 5 := Int.fmod_nonneg_of_pos _ (by decide)
    have q1 : Int.fmod k 5 < 5 := Int.fmod_lt_of_pos _ (by decide)
    refine str_item q0 (by rw [show (Str.ofString "abcde").length = 5 from by decide]; omega) (Nat.le_of_ble_eq_true rfl) ?_ (by with_unfolding_all rfl) (by intro _; with_unfolding_all rfl)
    rw [ltr_at]
    refine TurnEnd.intro F N (fun _ hp => hp) ?_
    rw [take_snoc (a := ltr k) (by unfold wordL; rw [List.getElem?_map, hk]; rfl), List.map_append]
    exact strs_snoc j _ _
  · intro ys j D9 h9 tk9 F9 N9 off9
    have hwl : (wordL ns).length = 5 := by unfold wordL; rw [List.length_map, hn]
    rw [List.take_of_length_le (Nat.le_of_eq hwl)] at j
    (try dsimp only)
    k_steps
    refine Hold.mk ?_
    refine join_list ⟨_, (N9 _ (.head _)).1, rfl, _, rfl⟩ j (ones_sum hwl) ?_
    intro t8 k8
    rw [join_ones hwl]
    k_steps
    (with_reducible rename Fr _ _ _ _ => F8)
    (with_reducible rename News _ _ _ _ => N8)
    exact hret _ _ _ F8 (fun p hp => N8 p (.tail _ hp))
end Mine
end
theorem Mine.slate10 : True := by first | walk1 | trivial
section
open PySem PySem.W PyProof.Rows
set_option Elab.async false
set_option maxRecDepth 100000
set_option maxHeartbeats 2000000
set_option pp.deepTerms true
set_option pp.proofs false
namespace Mine
local macro_rules | `(tactic| walk_at "ent") => `(tactic| ((case kA => exact rfl); (case kF => exact rfl); (case kK => assumption); (case k1 => k_asm); (case k2 => k_asm); (case k3 => k_asm); (case k5 => k_asm); (case k6 => k_is); (case k7 => k_is); (case k8 => ktr_room); (case k9 => exact BindsTo.of_eq rfl); (case kB => exact rfl); (case kD => decide +kernel); (case c2 => exact rfl); (case c3 => exact rfl); (case c4 => exact rfl); k_whole))
local macro_rules | `(tactic| walk_at "call ref") => `(tactic| (k_here; (with_reducible show wpAny _ _ (call (Value.ref 97) _ _) _ _ _); k_dflt (refine' conv _ _ _ _ ?hl ?hp _ _ _ _ _ _ _ _ _ _ _ _ _ _ _ _ _ ?B ?F ?X ?T ?kK ?kd ?ku trivial ?_; (case B => k_asm); (case F => k_asm); (case X => k_asm); (case T => k_asm); (case kK => first | exact rfl | assumption); (case kd => ktr_room); (case ku => ktr_units); (case hl => omega); (case hp => assumption); k_whole); (with_reducible rename News _ _ _ _ => N9'); intro t9 h9 tk9 F9 k9; (replace N9' := news_kept N9' k9); clear k9; (try dsimp only); (try k_fold)))
local macro_rules | `(tactic| walk_at "call builtin:str.lower") => `(tactic| (k_here; (with_reducible show wpAny _ _ (call (Value.builtin "str.lower") [Value.str _ _]) _ _ _); (refine SCL.lower (by rw [sizeLine_eq]; omega) ?_); intro _))
local macro_rules | `(tactic| walk_at "eval ListComp") => `(tactic| (k_here; k_dflt (refine LCt.ListComp_T (F₀ := by k_asm) (by with_unfolding_all rfl) (by decide) (by rfl) (by decide) (by rfl) ?_)))
local macro_rules | `(tactic| walk_at "subscriptTail") => `(tactic| (k_here; (with_reducible show wpAny _ _ (subscriptTail _ _ (Value.ref _) (Value.int _ _)) _ _ _); k_dflt (refine' item_tupleT ?t ?a ?b ?c ?d ?_; (case t => assumption); (case a => decide); (case b => decide); (case c => rfl); (case d => rfl); k_whole)))
local macro_rules | `(tactic| walk_at "storeName") => `(tactic| (k_here; k_dflt (refine' storeX_C ?F ?N ?c ?U ?d ?_ ?a ?b; (case a => rfl); (case b => rfl); (case F => k_asm); (case N => k_asm); (case c => rfl); (case U => first | assumption | apply_assumption); (case d => k_asm); k_whole); intro h' o' F' N' d'; (try dsimp only at N')))
theorem off1Mem {D : Addr} {l : List (Addr × Obj)} (h : LCg.Off1 D l) : ∀ p ∈ l, p.1 ≠ D := by
  induction l with
  | nil =>
    intro p hp
    cases hp
  | cons q r ih =>
    intro p hp
    rcases List.mem_cons.mp hp with e | hp
    · rw [e]
      exact h.1
    · exact ih h.2 p hp
theorem getall {w : World} {p : Program} {loose : List Str} {mean : ExcName → Option Value} {mg mb : Str → Option Value} (dp un : Nat) (gd : Option (List Code)) (cn : Str) (cs : Scope) (a : Addr) (ccd : Value) (cl : List (Str × Addr)) (outer : List Env) (A₀ : Around) (base h₀ : Heap) (L : Addr) (m : Str → Option Value) (s : Shared) (Q E : Value → Shared → Prop)
    (x dx l : Addr) (tkd : Tok) (hsh : Int) (vs : List Value) (n : Nat) (rows : List (Str × Str)) (nm : Str) (t1 : Tok) (more : List (Addr × Obj))
    (B : Below A₀ base outer h₀) (F : Fr h₀ L s.heap m) (X : (hd1.heap_39 w.params).In h₀) (T : Top p loose mean mg mb h₀) (hk : cs.kind = .function) (hd : dp + 20 < recursionLimit) (hu : un + 200 < cLine)
    (N : News h₀ L s.heap (tab3 196 x dx l tkd hsh vs n ++ more)) (R : ∀ g : Heap, (∀ p ∈ more, g.get? p.1 = some p.2) → RowsAt g vs rows) (hv : vs.length ≤ 1000) (h1 : x < l) (h2 : dx < l) (h3 : dx < x) (hn1 : nm.length ≤ 1000) (hn2 : (Txt.lower nm).length ≤ 1000) (hn3 : Plain (Txt.lower nm)) (hr : ∀ r ∈ rows, r.1.length ≤ 1000)
    (hret : ∀ D ys n' h' tk', Fr h₀ L h' m → News h₀ L h' ((D, listOf (List.toArray ys) n') :: (tab3 196 x dx l tkd hsh vs n ++ more)) → (∀ p ∈ tab3 196 x dx l tkd hsh vs n ++ more, p.1 ≠ D) → StrsAre ys ((rows.filter fun r => Txt.lower r.1 == Txt.lower nm).map (·.2)) → Q (.ref D) { s with heap := h', toks := tk' }) :
    wpAny (model PySem.Challenge.rw_pg0249_01.row.prog w) (ktrTop dp un gd cn cs L a ccd cl outer) (call (.ref 135) [.ref x, .str nm t1]) Q E s := by
  revert X; k_fill; intro X
  refine wpAny_call ?_
  k_dflt (refine' code_subC (binds := [(Str.ofString "self", .ref x), (Str.ofString "name", .str nm t1)]) ?k1 ?k2 ?k3 N ?k5 ?kA ?kF ?kK ?k6 ?k7 ?k8 ?k9 ?kB ?kD ?_ ?c2 ?c3 ?c4; walk_at "ent")
  intro g' L' h' tk' cells' hk0 l2 FG' F' N' Y' B' X' T'
  have l2c := l2
  (try k_lt l2)
  replace h1 := ltN h1
  replace h2 := ltN h2
  replace h3 := ltN h3
  have Nsub := N
  k_cells Y'
  (try simp only [List.cons_append, List.nil_append] at N')
  (try dsimp only)
  with_reducible show wpAny _ _ _ _ _ _
  k_fold
  (with_reducible rename Obj.data _ = Data.cell (bindC _ _ _ (PySem.Str.ofString "name")) => dF)
  have hU := updCell (pre := []) N' dF (fun p hp => nomatch hp) (fun p hp => .inl (ltAdd (l2c p hp) 1))
  simp only [List.nil_append] at hU
  k_steps
  with_unfolding_all refine LCt.CompSrcT.ledger (by rfl) (by k_asm) (by k_asm) (by k_mem) (by rw [sizeLine_eq]; simp only [List.size_toArray]; omega) ?_
  intro gg
  have Rl := (R s.heap fun p hp => (N p (List.mem_append_right _ hp)).1).length
  refine restT_ind (n := vs.length) (J := fun i ys => StrsAre ys (((rows.take i).filter fun r => Txt.lower r.1 == Txt.lower nm).map (·.2))) (Or.inr ⟨_, by k_mem, rfl, _, rfl⟩) ?_ ?_ _ 0 [] (by simp) .nil
  · intro i ys hi j v I oI C oC D m₂ h tk E' hv hC hx F N off ne
    have Rh := R h fun p hp => (N p (.tail _ (.tail _ (.tail _ (.tail _ (.tail _ (.tail _ (.tail _ hp)))))))).1
    obtain ⟨T, k, xx, t, u, rfl, hrow, hT2⟩ := Rh.get (by simpa using hv)
    have hkl : k.length ≤ 1000 := hr _ (List.mem_of_getElem? hrow)
    (try simp only [LCg.Off3, and_true] at off)
    (try dsimp only)
    k_steps
    · (with_reducible rename (_ == _) = true => hq)
      refine TurnEnd.intro (by k_asm) N (fun _ hp => hp) ?_
      rw [filt_yes hrow hq, List.map_append]
      exact strs_snoc j xx u
    · (with_reducible rename (_ == _) = false => hq)
      refine TurnEnd.intro (by k_asm) N (fun _ hp => hp) ?_
      rw [filt_no hrow hq]
      exact j
  · intro ys j
    rw [Rl, List.take_length] at j
    intro D9 h9 tk9 F9 N9 ne9
    (try dsimp only)
    k_steps
    have kN2 : News h₀ L h9 ((D9, listOf (List.toArray ys) ys.length) :: (tab3 196 x dx l tkd hsh vs n ++ more)) := by
      (with_reducible rename News h₀ L h9 _ => kN)
      intro p hp
      refine kN p ?_
      rcases List.mem_cons.mp hp with rfl | hp
      · exact .head _
      · exact .tail _ (.tail _ hp)
    have ne8 : ∀ p ∈ tab3 196 x dx l tkd hsh vs n ++ more, p.1 ≠ D9 := fun p hp => off1Mem ne9 p (.tail _ hp)
    exact hret D9 ys ys.length h9 tk9 (by k_asm) kN2 ne8 j
end Mine
end
theorem Mine.slate11 : True := by first | walk1 | trivial
section
open PySem PySem.W PyProof.Rows
set_option Elab.async false
set_option maxRecDepth 100000
set_option maxHeartbeats 8000000
set_option pp.deepTerms true
set_option pp.proofs false
namespace Mine
local macro_rules | `(tactic| walk_at "eval ListComp") => `(tactic| (k_here; k_dflt (refine LCg.ListComp_U (F₀ := by k_asm) (by with_unfolding_all rfl) (by decide) (by rfl) (by decide) (by rfl) ?_)))
local macro_rules | `(tactic| walk_at "exec Assign cons ListComp") => `(tactic| (k_here; k_dflt (refine LCg.Assign_ListComp_U (F₀ := by k_asm) (by rfl) (by with_unfolding_all rfl) (by with_unfolding_all rfl) (by decide) (by rfl) (by decide) (by rfl) (by rfl) (by rfl) ?_)))
local macro_rules | `(tactic| walk_at "CompSrc") => `(tactic| (refine Hold.out ?_))
def greatL (ns : List Int) : List Int := ns.map fun v => Int.fmod (Int.fdiv v 5) 2
theorem st2 {w : World} {p : Program} {loose : List Str} {mean : ExcName → Option Value} {mg mb : Str → Option Value} (fa : Addr) (cdv : Value) (base h₀ : Heap) (L : Addr) (m : Str → Option Value) (s : Shared) (Q : Flow → Shared → Prop) (E : Value → Shared → Prop)
    (l : Addr) (n : Nat) (vs : List Value) (ns : List Int)
    (B : Below callerA base [] h₀) (F : Fr h₀ L s.heap m) (X : (hd1.heap_39 w.params).In h₀) (T : Top p loose mean mg mb h₀)
    (N : News h₀ L s.heap [(l, listOf vs.toArray n)]) (hm : m (Str.ofString "numbers") = some (.ref l)) (hv : IntsAre vs ns) (hn : ns.length = 5)
    (hret : ∀ h tk D gs n, Fr h₀ L h (fun y => if y = Str.ofString "great" then some (.ref D) else m y) → News h₀ L h [(D, listOf (List.toArray gs) n)] → IntsAre gs (greatL ns) → Q .next { s with heap := h, toks := tk }) :
    wpAny (model PySem.Challenge.rw_pg0249_01.row.prog w) (lawA L fa cdv) (exec (nthS lawBody 2) (lawE L fa cdv)) Q E s := by
  revert X; k_fill; intro X
  have eS : lawScope = lawScope := rfl
  have eB : nthS lawBody 2 = nthS lawBody 2 := rfl
  (conv at eS => rhs; whnf)
  (conv at eB => rhs; whnf)
  unfold lawA lawE
  rw [eS, eB]
  clear eS eB
  have hvl := hv.length
  obtain ⟨m, rfl⟩ := see_eq hm
  k_steps
  refine Hold.mk ?_
  with_unfolding_all refine LCg.CompSrc.ledger (by rfl) (by k_asm) (by k_asm) (by k_mem) (by rw [sizeLine_eq]; simp only [List.size_toArray]; omega) ?_
  intro gg
  refine restU_ind (n := 5) (J := fun i ys => IntsAre ys ((greatL ns).take i)) (Or.inr ⟨_, by k_mem, rfl, _, rfl⟩) ?_ ?_ _ 0 [] (by simp only [List.size_toArray]; omega) .nil
  · intro i ys hi j v I oI C oC D m₂ h tk E' hv' hC hx F N off ne
    obtain ⟨k, t, rfl, hk⟩ := ints_get hv (by simpa using hv')
    (try simp only [LCg.Off3, and_true] at off)
    (try dsimp only)
    k_steps
    refine TurnEnd.intro F N (fun _ hp => hp) ?_
    rw [take_snoc (a := Int.fmod (Int.fdiv k 5) 2) (by unfold greatL; rw [List.getElem?_map, hk]; rfl)]
    exact ints_snoc j _ _
  · intro ys j D9 h9 tk9 F9 N9 off9
    have hgl : (greatL ns).length = 5 := by unfold greatL; rw [List.length_map, hn]
    rw [List.take_of_length_le (Nat.le_of_eq hgl)] at j
    (try dsimp only)
    k_steps
    exact hret _ _ _ _ _ F9 (fun p hp => by
      rw [List.mem_singleton.mp hp]
      exact N9 _ (.head _)) j
end Mine
end
section
open PySem PySem.W PyProof.Rows
set_option Elab.async false
set_option maxRecDepth 100000
namespace Mine
section
variable {prog : Program} {w : World} {A : Around} {E : Value → Shared → Prop} {s : Shared}
theorem setN {h₀ : Heap} {L : Addr} {m : Str → Option Value} {news : List (Addr × Obj)} {x : Str} {t : Tok} {Q : Value → Shared → Prop} (F : Fr h₀ L s.heap m) (N : News h₀ L s.heap news) (hh : A.handled = none) (hb : x.cps.size + 1 < scanBound)
    (h : ∀ S o h' (tk : Nat), Fr h₀ L h' m → News h₀ L h' ((S, o) :: news) → (∀ q ∈ news, q.1 < S) → StrSet prog w o (met x.cps.toList x.cps.size) → Q (.ref S) { s with heap := h', toks := tk }) :
    wpAny (model prog w) A (call (.type "set") [.str x t]) Q E s :=
  call_set_str hh hb fun h' tk o ho hs hk => h _ o h' tk (F.kept hk) (N.kept_cons F hk (Nat.le_refl _) ho) (fun q hq => Heap.lt_size (N q hq).1) hs
end
end Mine
end
section
open PySem PySem.W PyProof.Rows PyProof.V PySem.Calls
set_option Elab.async false
set_option maxRecDepth 100000
namespace Mine
section
variable {prog : Program} {w : World} {A : Around} {E : Value → Shared → Prop} {s : Shared} {env : Env} {h₀ : Heap} {target : PySem.Expr} {body : List Stmt} {Q : Flow → Shared → Prop}
theorem enumRest_ind {ws : List (Addr × String)} {keep : List (Addr × Obj)} {vs : List Value} (J : Nat → (Str → Option Value) → List (Addr × Obj) → Prop)
    (step : ∀ i v m news, vs[i]? = some v → J i m news → ∀ T t h tk, IsTup h T #[.int (i : Int) t, v] → Fr h₀ env.locals h m → AllObj ws (fun its => News h₀ env.locals h (its ++ news) →
      wpAny (model prog w) A (assign target env (.ref T)) (fun _ s₂ => wpAny (model prog w) A (execs body env) (UnrPostW h₀ env.locals { s with heap := h, toks := tk } its (fun m' n' => SubL keep n' ∧ J (i + 1) m' n') Q) E s₂) E { s with heap := h, toks := tk }))
    (fin : ∀ m news, J vs.length m news → ∀ h tk, Fr h₀ env.locals h m → News h₀ env.locals h news → Q .next { s with heap := h, toks := tk }) :
    ∀ k i m news, k + i = vs.length → J i m news → ItemsRest prog w A E h₀ env target body Q s ws keep (enumItems i (vs.drop i)) m news
  | 0, i, m, news, e, j => by
    have hi : i = vs.length := by omega
    subst hi
    rw [List.drop_length]
    exact ItemsRest.zero (fin m news j)
  | k + 1, i, m, news, e, j => by
    have hlt : i < vs.length := by omega
    rw [List.drop_eq_getElem_cons hlt]
    refine ItemsRest.pair fun T t h tk hT F => AllObj.mono (step i _ m news (List.getElem?_eq_getElem hlt) j T t h tk hT F) fun its g N => ?_
    refine wpAny_mono (g N) (fun _ s₂ q => wpAny_mono q (fun f s' p => ?_) fun _ _ e => e) fun _ _ e => e
    exact UnrPostW.mono p fun m' n' q => ⟨q.1, enumRest_ind J step fin k (i + 1) m' n' (by omega) q.2⟩
end
end Mine
end
theorem Mine.slate12 : True := by first | walk1 | trivial
section
open PySem PySem.W PyProof.Rows
set_option Elab.async false
set_option maxRecDepth 100000
set_option maxHeartbeats 8000000
set_option pp.deepTerms true
set_option pp.proofs false
namespace Mine
local macro_rules | `(tactic| walk_at "exec For Tuple Call cons nil") => `(tactic| (k_here; refine Hold.out ?_))
local macro_rules | `(tactic| walk_at "exec For Tuple Call") => `(tactic| (k_here; refine Hold.out ?_))
local macro_rules | `(tactic| walk_at "exec For") => `(tactic| (k_here; refine Hold.out ?_))
local macro_rules | `(tactic| walk_at "call type:set") => `(tactic| (k_here; refine Hold.out ?_))
local macro_rules | `(tactic| walk_at "call builtin:sorted") => `(tactic| (k_here; refine Hold.out ?_))
local macro_rules | `(tactic| walk_at "call type:enumerate") => `(tactic| (k_here; refine Hold.out ?_))
local macro_rules | `(tactic| walk_at "pyIter ref") => `(tactic| (k_here; refine Hold.out ?_))
local macro_rules | `(tactic| walk_at "call ref") => `(tactic| (k_here; (with_reducible show wpAny _ _ (call (Value.ref 135) _ _) _ _ _); refine Hold.out ?_))
local macro_rules | `(tactic| walk_at "setItem ref str") => `(tactic| (k_here; refine Hold.out ?_))
local macro_rules | `(tactic| walk_at "subscriptTail") => `(tactic| (k_here; (with_reducible show wpAny _ _ (subscriptTail _ _ (Value.ref _) (Value.int _ _)) _ _ _); refine Hold.out ?_))
local macro_rules | `(tactic| walk_at "UnrEndW") => `(tactic| (refine Hold.out ?_))
theorem News.of_sub {h₀ h : Heap} {L : Addr} {a b : List (Addr × Obj)} (N : News h₀ L h a) (hs : ∀ p ∈ b, p ∈ a) : News h₀ L h b := fun p hp => N p (hs p hp)
theorem met_all {l : List Nat} : ∀ (i : Nat), i ≤ l.length → ∀ {k : Nat} (hk : k < i) (hk' : k < l.length := by omega), (⟨#[l[k]]⟩ : Str) ∈ met l i
  | 0, _, k, hk, _ => absurd hk (Nat.not_lt_zero _)
  | i + 1, hi, k, hk, hk' => by
    rw [met_succ (List.getElem?_eq_getElem (by omega))]
    rcases Nat.lt_or_ge k i with h | h
    · have ih := met_all i (by omega) h hk'
      split
      · exact ih
      · exact List.mem_append_left _ ih
    · have e : k = i := by omega
      subst e
      split
      · assumption
      · exact List.mem_append_right _ (.head _)
theorem item_prev {prog : Program} {w : World} {A : Around} {E : Value → Shared → Prop} {s : Shared} {Q : Value → Shared → Prop} {value slice : PySem.Expr} {l : Addr} {vs : List Value} {ws : List Str} {j : Nat} {u : Tok} (hl : s.heap.IsList l vs.toArray) (hw : StrsAre vs ws) (hj : j < ws.length) (hm : ws.length ≤ 1000) {z : Str} (hz : ws.getD (if j = 0 then ws.length - 1 else j - 1) PySem.Str.empty = z)
    (h : ∀ t', Q (.str z t') s)
    (hs : subscripted slice false (.ref l) (.int ((j : Int) - 1) u) = operate [.ref l, .int ((j : Int) - 1) u] (getItem (.ref l) (.int ((j : Int) - 1) u)) := by with_unfolding_all rfl) :
    wpAny (model prog w) A (subscriptTail value slice (.ref l) (.int ((j : Int) - 1) u)) Q E s := by
  subst hz
  have hvl := hw.length
  by_cases e : j = 0
  · subst e
    rw [if_pos rfl] at h
    obtain ⟨t', e⟩ := hw.get (ws.length - 1) (ws.getD (ws.length - 1) PySem.Str.empty) (by rw [List.getD_eq_getElem?_getD, List.getElem?_eq_getElem (by omega)]; rfl)
    refine tail_any hl.typeIs slot_list_getitem.lookup (wpAny_getItem_list_neg hl (by omega) (by simp only [List.size_toArray]; omega) (by omega) (x := .str _ t') ?_ (h t')) hs
    rw [List.size_toArray, hvl, show ((((0 : Nat) : Int) - 1) + (ws.length : Int)).toNat = ws.length - 1 by omega]
    simpa using e
  · rw [if_neg e] at h
    obtain ⟨t', e2⟩ := hw.get (j - 1) (ws.getD (j - 1) PySem.Str.empty) (by rw [List.getD_eq_getElem?_getD, List.getElem?_eq_getElem (by omega)]; rfl)
    refine tail_any hl.typeIs slot_list_getitem.lookup (wpAny_getItem_list hl (by omega) (by omega) (x := .str _ t') ?_ (h t')) hs
    rw [show ((j : Int) - 1).toNat = j - 1 by omega]
    simpa using e2
theorem sec3 {w : World} {p : Program} {loose : List Str} {mean : ExcName → Option Value} {mg mb : Str → Option Value} (dp un : Nat) (gd : Option (List Code)) (cn : Str) (cs : Scope) (a : Addr) (ccd : Value) (cl : List (Str × Addr)) (outer : List Env) (base g' : Heap) (L L' : Addr) (m : Str → Option Value) (s : Shared) (Q : Flow → Shared → Prop) (E : Value → Shared → Prop)
    (x : Str) (t : Tok) (tx dx lh d : Addr) (tkd : Tok) (hsh : Int) (vs : List Value) (n : Nat) (rows : List (Str × Str)) (od : Obj) (more : List (Addr × Obj))
    (B' : Below (ktrTop dp un gd cn cs L a ccd cl outer) base (envX cn cs L a ccd cl :: outer) g') (F : Fr g' L' s.heap m) (X' : (hd1.heap_39 w.params).In g') (T' : Top p loose mean mg mb g') (hk : cs.kind = .function) (hd : dp + 100 < recursionLimit) (hu : un + 1000 < cLine)
    (N : News g' L' s.heap (tab3 196 tx dx lh tkd hsh vs n ++ ((d, od) :: more))) (q1 : tx < lh) (q2 : dx < lh) (q3 : dx < tx) (hdn : ∀ p ∈ tab3 196 tx dx lh tkd hsh vs n ++ more, p.1 ≠ d)
    (R : RowsIn more vs rows) (RL : RowsL x.cps.toList 5 rows) (hvl : vs.length = 5)
    (hx : x.length = 5) (ha : x.cps.all (· < 128) = true) (hpl : ∀ c ∈ x.cps.toList, 97 ≤ c ∧ c ≤ 122)
    (hdo : od.IsDictOf (strKind PySem.Challenge.rw_pg0249_01.row.prog w) [])
    (m1 : m (Str.ofString "table") = some (.ref tx)) (m2 : m (Str.ofString "word") = some (.str x t)) (m3 : m (Str.ofString "ahead") = some (.ref d))
    (hE : PassesOwn (model PySem.Challenge.rw_pg0249_01.row.prog w) ((ktrTop dp un gd cn cs L a ccd cl outer).deeper (sEnv L')) (sEnv L') E)
    (hret : ∀ m' h tk d' o kvs, Fr g' L' h m' → News g' L' h ((d, o) :: more) → o.IsDictOf (strKind PySem.Challenge.rw_pg0249_01.row.prog w) kvs → KvF (pv x.cps.toList) (· < 5) kvs →
      m' (Str.ofString "ahead") = some (.ref d) → Q .next { s with heap := h, drawn := d', toks := tk }) :
    wpAny (model PySem.Challenge.rw_pg0249_01.row.prog w) ((ktrTop dp un gd cn cs L a ccd cl outer).deeper (sEnv L')) (exec (nthS sBody 3) (sEnv L')) Q E s := by
  revert X'; k_fill; intro X'
  have eS : sScope = sScope := rfl
  have eB : nthS sBody 3 = nthS sBody 3 := rfl
  (conv at eS => rhs; whnf)
  (conv at eB => rhs; whnf)
  unfold sEnv at hE ⊢
  rw [eS] at hE ⊢
  rw [eB]
  clear eS eB
  obtain ⟨m, rfl⟩ := see_eq m1
  replace m2 := see_in m2 (by decide)
  replace m3 := see_in m3 (by decide)
  obtain ⟨m, rfl⟩ := see_eq m2
  replace m3 := see_in m3 (by decide)
  obtain ⟨m, rfl⟩ := see_eq m3
  clear m1 m2 m3
  (with_unfolding_all refine' For_turns F ?_ ?_ ?_; k_whole)
  (try simp only [List.cons_append, List.nil_append] at N)
  k_steps
  refine Hold.mk ?_
  (with_reducible rename Fr _ _ _ _ => F1)
  (with_reducible rename News g' _ _ (_ :: _) => N1)
  refine setN F1 N1 (by rfl) (by rw [show x.cps.size = 5 from hx]; decide) ?_
  intro S oS h1 tk1 F1 N1 l1 hS
  k_steps
  refine Hold.mk ?_
  (with_reducible rename Fr _ _ _ _ => F2)
  (with_reducible rename News g' _ _ (_ :: _) => N2)
  have hml : (met x.cps.toList x.cps.size).length ≤ 5 := by
    have h := met_len x.cps.toList x.cps.size (by simp)
    rw [show x.cps.size = 5 from hx] at h ⊢
    exact h
  refine set_sorted F2 N2 (.head _) hS (by omega) (by rfl) ?_
  intro D h2 d2 tk2 ls ks e2 F2 N2 l2 hls hperm hsort
  k_steps
  refine Hold.mk ?_
  (with_reducible rename Fr _ _ _ _ => F2)
  (with_reducible rename News g' _ _ (_ :: _) => N2)
  have N3 : News g' L' _ ((D, listOf ls.toArray e2) :: (tab3 196 tx dx lh tkd hsh vs n ++ ((d, od) :: more))) := News.of_sub N2 fun p hp => by
    simp only [List.mem_cons, tab3, List.cons_append, List.nil_append] at hp ⊢
    rcases hp with hp | hp | hp | hp | hp | hp <;> simp only [hp, true_or, or_true]
  have hDl : ∀ p ∈ tab3 196 tx dx lh tkd hsh vs n ++ ((d, od) :: more), p.1 < D := fun p hp => l2 p (.tail _ hp)
  have hkl : ks.length ≤ 5 := by rw [hperm.length_eq]; exact hml
  clear N2 N1 F1
  (with_unfolding_all refine iter_listTurns (lo := listOf ls.toArray e2) (vs := ls) (by rfl) F2 N3 (.head _) (by rfl) (by rfl) ?_)
  intro I hI
  refine valRest_ind (J := fun i m' news => ∃ o kvs, news = (D, listOf ls.toArray e2) :: (tab3 196 tx dx lh tkd hsh vs n ++ ((d, o) :: more)) ∧ o.IsDictOf (strKind PySem.Challenge.rw_pg0249_01.row.prog w) kvs ∧ KvF (pv x.cps.toList) (fun q => q < 5 ∧ (⟨#[x.cps.toList.getD q 0]⟩ : Str) ∈ ks.take i) kvs ∧ kvs.length ≤ 5 * i ∧
    m' (Str.ofString "table") = some (.ref tx) ∧ m' (Str.ofString "ahead") = some (.ref d)) ?_ ?_ ls.length 0 _ _ rfl ⟨od, [], rfl, hdo, fun q hq => by simp at hq, Nat.le_refl _, rfl, rfl⟩
  · intro i v m1 news1 ev j h9 tk9 F9
    obtain ⟨o, kvs, rfl, j1, j2, j3, j4, j5⟩ := j
    obtain ⟨m1, rfl⟩ := see_eq j4
    replace j5 := see_in j5 (by decide)
    obtain ⟨m1, rfl⟩ := see_eq j5
    clear j4 j5 F2 N3
    intro oI cI N9
    obtain ⟨z, tz, hz, rfl⟩ : ∃ z tz, ks[i]? = some z ∧ v = .str z tz := by
      have hlt := List.getElem?_eq_some_iff.mp ev
      obtain ⟨h1, h2⟩ := hlt
      have hk : i < ks.length := by rw [← hls.length]; exact h1
      obtain ⟨t', e⟩ := hls.get i ks[i] (List.getElem?_eq_getElem hk)
      rw [ev] at e
      exact ⟨ks[i], t', List.getElem?_eq_getElem hk, Option.some.inj e⟩
    have hi5 : i < 5 := by
      have := (List.getElem?_eq_some_iff.mp hz).1
      omega
    obtain ⟨c, hc, rfl⟩ := met_is x.cps.size (by simp) (hperm.mem_iff.mp (List.mem_of_getElem? hz))
    obtain ⟨b1, b2⟩ := hpl c hc
    obtain ⟨k1, k2, k3, k4, k5⟩ := case_ok b1 b2
    have hrp := rows_pos RL (by rw [Array.length_toList]; exact hx) c
    (try simp only [List.cons_append, List.nil_append] at N9)
    k_steps
    refine Hold.mk ?_
    (with_reducible rename Fr g' _ _ _ => F9)
    (with_reducible rename News g' _ _ _ => N9)
    have N8 : News g' L' _ (tab3 196 tx dx lh tkd hsh vs n ++ ((I, oI) :: (D, listOf ls.toArray e2) :: (d, o) :: more)) := News.of_sub N9 fun p hp => by
      simp only [List.mem_cons, tab3, List.cons_append, List.nil_append] at hp ⊢
      rcases hp with hp | hp | hp | hp | hp | hp | hp <;> simp only [hp, true_or, or_true]
    k_dflt (refine' getall _ _ _ _ _ _ _ _ _ _ _ _ _ _ _ _ _ tx dx lh tkd hsh vs n rows ⟨#[c]⟩ _ ((I, oI) :: (D, listOf ls.toArray e2) :: (d, o) :: more) B' F9 X' T' ?zk ?zd ?zu N8 ?zr (by omega) q1 q2 q3 (Nat.le_of_ble_eq_true rfl) ?zl ?zp ?zq ?zret)
    case zk => exact rfl
    case zd => ktr_room
    case zu => ktr_units
    case zr => exact fun g hg => R g fun p hp => hg p (.tail _ (.tail _ (.tail _ hp)))
    case zl => rw [k1]; exact Nat.le_of_ble_eq_true rfl
    case zp => rw [k1]; exact k3
    case zq =>
      intro r hr
      obtain ⟨q, hq, e⟩ := List.mem_iff_getElem.mp hr
      obtain ⟨c', hc'⟩ : ∃ c', x.cps.toList[q]? = some c' := ⟨_, List.getElem?_eq_getElem (by rw [RL.1] at hq; rw [Array.length_toList, show x.cps.size = 5 from hx]; exact hq)⟩
      obtain ⟨r', e1, _, _, e4⟩ := RL.2 q c' (by rw [← RL.1]; exact hq) hc'
      rw [List.getElem?_eq_getElem hq, e] at e1
      rw [Option.some.inj e1]
      exact e4
    case zret =>
      intro D2 ys n2 h3 tk3 F3 N3 hD2 hys
      rw [k1, hrp] at hys
      (try dsimp only)
      k_steps
      refine Hold.mk ?_
      (with_reducible rename Fr g' _ _ _ => F3)
      (with_reducible rename News g' _ _ _ => N3)
      (with_unfolding_all refine' For_turns F3 ?_ ?_ ?_; k_whole)
      (try simp only [List.cons_append, List.nil_append] at N3)
      k_steps
      refine Hold.mk ?_
      have hPl : (posOf x.cps.toList c).length ≤ 5 := by
        unfold posOf
        exact Nat.le_trans (List.length_filter_le _ _) (Nat.le_of_eq List.length_range)
      have hyl := hys.length
      rw [List.length_map] at hyl
      clear F9 N9
      (with_unfolding_all refine ktu_enum (lo := listOf ys.toArray n2) (vs := ys) (by rfl) F3 N3 (.head _) (by rfl) (by rfl) rfl ?_)
      intro I2 hI2
      refine enumRest_ind (J := fun j m' news => ∃ o kvs', news = (D2, listOf ys.toArray n2) :: (tab3 196 tx dx lh tkd hsh vs n ++ ((I, oI) :: (D, listOf ls.toArray e2) :: (d, o) :: more)) ∧ o.IsDictOf (strKind PySem.Challenge.rw_pg0249_01.row.prog w) kvs' ∧ KvF (pv x.cps.toList) (fun q => (q < 5 ∧ (⟨#[x.cps.toList.getD q 0]⟩ : Str) ∈ ks.take i) ∨ q ∈ (posOf x.cps.toList c).take j) kvs' ∧ kvs'.length ≤ 5 * i + j ∧
        m' (Str.ofString "table") = some (.ref tx) ∧ m' (Str.ofString "ahead") = some (.ref d) ∧ m' (Str.ofString "places") = some (.ref D2)) ?_ ?_ ys.length 0 _ _ rfl ⟨o, kvs, rfl, j1, fun q hq => j2 q (by simpa using hq), j3, rfl, rfl, rfl⟩
      · intro j v m2 news2 ev2 jj T t2 h8 tk8 hT F8
        obtain ⟨o8, kv8, rfl, j1, j2, j3, j4, j5, j6⟩ := jj
        obtain ⟨m2, rfl⟩ := see_eq j4
        replace j5 := see_in j5 (by decide)
        replace j6 := see_in j6 (by decide)
        obtain ⟨m2, rfl⟩ := see_eq j5
        replace j6 := see_in j6 (by decide)
        obtain ⟨m2, rfl⟩ := see_eq j6
        clear j4 j5 j6 F3 N3
        refine AllObj.cons fun oE cE => ?_
        refine AllObj.cons fun oL cL => ?_
        refine AllObj.nil ?_
        intro N8
        obtain ⟨q, tq, hq, rfl⟩ : ∃ q tq, (posOf x.cps.toList c)[j]? = some q ∧ v = .str (dig q) tq := by
          obtain ⟨h1, h2⟩ := List.getElem?_eq_some_iff.mp ev2
          have hk : j < (posOf x.cps.toList c).length := by omega
          obtain ⟨t', e⟩ := hys.get j (dig (posOf x.cps.toList c)[j]) (by rw [List.getElem?_map, List.getElem?_eq_getElem hk]; rfl)
          rw [ev2] at e
          exact ⟨_, t', List.getElem?_eq_getElem hk, Option.some.inj e⟩
        have hjP := (List.getElem?_eq_some_iff.mp hq).1
        (try simp only [List.cons_append, List.nil_append] at N8)
        have hval : ((posOf x.cps.toList c).map dig).getD (if j = 0 then ((posOf x.cps.toList c).map dig).length - 1 else j - 1) PySem.Str.empty = dig (pv x.cps.toList q) := by
          rw [pv_at hq]
          unfold pvIx
          rw [List.length_map]
          have hb : (if j = 0 then (posOf x.cps.toList c).length - 1 else j - 1) < (posOf x.cps.toList c).length := by split <;> omega
          rw [getD_el _ _ (by rw [List.length_map]; exact hb), getD_el _ _ hb, List.getElem_map]
        have hlow : ∀ o' (p : Addr × Obj), p ∈ (D2, listOf ys.toArray n2) :: (tab3 196 tx dx lh tkd hsh vs n ++ ((I, oI) :: (D, listOf ls.toArray e2) :: (d, o') :: more)) → p.1 < I2 := by
          intro o' p hp
          simp only [tab3, List.cons_append, List.nil_append, List.mem_cons] at hp
          rcases hp with rfl | rfl | rfl | rfl | rfl | rfl | rfl | hp
          · exact hI2 _ (.head _)
          · exact hI2 _ (.tail _ (.head _))
          · exact hI2 _ (.tail _ (.tail _ (.head _)))
          · exact hI2 _ (.tail _ (.tail _ (.tail _ (.head _))))
          · exact hI2 _ (.tail _ (.tail _ (.tail _ (.tail _ (.head _)))))
          · exact hI2 _ (.tail _ (.tail _ (.tail _ (.tail _ (.tail _ (.head _))))))
          · exact hI2 (d, o) (.tail _ (.tail _ (.tail _ (.tail _ (.tail _ (.tail _ (.head _)))))))
          · exact hI2 _ (.tail _ (.tail _ (.tail _ (.tail _ (.tail _ (.tail _ (.tail _ hp)))))))
        have hU : UpdF d o8 ([(I2 + 1, oE), (I2, oL), (D2, listOf ys.toArray n2), (lh, listOf vs.toArray n), (tx, instObj 196 dx), (dx, hdrDict tkd hsh lh), (I, oI), (D, listOf ls.toArray e2)] ++ (d, o8) :: more) (fun o' => [(I2 + 1, oE), (I2, oL), (D2, listOf ys.toArray n2), (lh, listOf vs.toArray n), (tx, instObj 196 dx), (dx, hdrDict tkd hsh lh), (I, oI), (D, listOf ls.toArray e2)] ++ (d, o') :: more) := by
          have hd2 : d < I2 := hI2 (d, o) (.tail _ (.tail _ (.tail _ (.tail _ (.tail _ (.tail _ (.head _)))))))
          refine updF_mk ?_ fun p hp => hdn p (List.mem_append_right _ hp)
          intro p hp
          simp only [List.mem_cons, List.not_mem_nil, or_false] at hp
          rcases hp with rfl | rfl | rfl | rfl | rfl | rfl | rfl | rfl
          · exact Nat.ne_of_gt (Nat.lt_succ_of_lt hd2)
          · exact Nat.ne_of_gt hd2
          · exact (hD2 (d, o) (.tail _ (.tail _ (.tail _ (.tail _ (.tail _ (.head _))))))).symm
          · exact hdn (lh, listOf vs.toArray n) (.head _)
          · exact hdn (tx, instObj 196 dx) (.tail _ (.head _))
          · exact hdn (dx, hdrDict tkd hsh lh) (.tail _ (.tail _ (.head _)))
          · exact Nat.ne_of_gt (hI (d, od) (.tail _ (.tail _ (.tail _ (.tail _ (.head _))))))
          · exact Nat.ne_of_gt (hDl (d, od) (.tail _ (.tail _ (.tail _ (.head _)))))
        simp only [List.cons_append, List.nil_append] at hU
        k_steps
        refine Hold.mk ?_
        (with_reducible rename Fr g' _ _ _ => F8)
        (with_reducible rename News g' _ _ _ => N8)
        refine item_prev ⟨_, (N8 _ (.tail _ (.tail _ (.head _)))).1, rfl, _, rfl⟩ hys (by rw [List.length_map]; exact hjP) (by rw [List.length_map]; omega) hval ?_
        intro t9
        k_steps
        refine Hold.mk ?_
        (with_reducible rename Fr g' _ _ _ => F8)
        (with_reducible rename News g' _ _ _ => N8)
        refine kda_set F8 N8 hU j1 (strKind_is _ _ _ _) (by rw [sizeLine_eq]; omega) ?_
        intro h7 o7 F7 N7 hd7
        (try dsimp only at N7)
        k_steps
        refine Hold.mk ?_
        (with_reducible rename Fr g' _ _ _ => F7)
        (with_reducible rename News g' _ _ _ => N7)
        refine endZ F7 N7 ((D2, listOf ys.toArray n2) :: (tab3 196 tx dx lh tkd hsh vs n ++ ((I, oI) :: (D, listOf ls.toArray e2) :: (d, o7) :: more))) (fun p hp => hp) ?_ ⟨?_, o7, _, rfl, hd7, j2.put q _ ?_, ?_, ?_, ?_, ?_⟩
        · intro p hp q hq
          have h1 := hlow o7 p hp
          simp only [List.mem_cons, List.not_mem_nil, or_false] at hq
          rcases hq with rfl | rfl
          · exact Nat.ne_of_lt (Nat.lt_succ_of_lt h1)
          · exact Nat.ne_of_lt h1
        · exact ⟨.head _, trivial⟩
        · rintro r (hr | hr)
          · exact .inl (.inl hr)
          · rw [List.take_add_one, hq] at hr
            rcases List.mem_append.mp hr with hr | hr
            · exact .inl (.inr hr)
            · exact .inr (by simpa using hr)
        · have := stored_length_le kv8 (dig q) (.str (dig (pv x.cps.toList q)) t9)
          omega
        · exact (if_neg (by decide)).trans ((if_neg (by decide)).trans (if_pos rfl))
        · exact (if_neg (by decide)).trans ((if_neg (by decide)).trans ((if_neg (by decide)).trans (if_pos rfl)))
        · exact (if_neg (by decide)).trans ((if_neg (by decide)).trans ((if_neg (by decide)).trans ((if_neg (by decide)).trans (if_pos rfl))))
      · rintro m2 news2 ⟨o8, kv8, rfl, j1, j2, j3, j4, j5, j6⟩ h8 tk8 F8 N8
        k_steps
        refine Hold.mk ?_
        (with_reducible rename Fr g' _ _ _ => F7)
        (with_reducible rename News g' _ _ _ => N7)
        refine endZ F7 N7 ((D, listOf ls.toArray e2) :: (tab3 196 tx dx lh tkd hsh vs n ++ ((d, o8) :: more))) ?_ ?_ ⟨?_, o8, kv8, rfl, j1, fun q hq => j2 q ?_, ?_, j4, j5⟩
        · intro p hp
          simp only [tab3, List.cons_append, List.nil_append, List.mem_cons] at hp ⊢
          rcases hp with hp | hp | hp | hp | hp | hp | hp <;> simp only [hp, true_or, or_true]
        · intro p hp q hq
          rw [List.mem_singleton.mp hq]
          refine Nat.ne_of_lt ?_
          simp only [tab3, List.cons_append, List.nil_append, List.mem_cons] at hp
          rcases hp with rfl | rfl | rfl | rfl | rfl | hp
          · exact hI _ (.head _)
          · exact hI _ (.tail _ (.head _))
          · exact hI _ (.tail _ (.tail _ (.head _)))
          · exact hI _ (.tail _ (.tail _ (.tail _ (.head _))))
          · exact hI (d, od) (.tail _ (.tail _ (.tail _ (.tail _ (.head _)))))
          · exact hI _ (.tail _ (.tail _ (.tail _ (.tail _ (.tail _ hp)))))
        · exact ⟨.head _, trivial⟩
        · obtain ⟨h1, h2⟩ := hq
          rw [List.take_add_one, hz] at h2
          rcases List.mem_append.mp h2 with h2 | h2
          · exact .inl ⟨h1, h2⟩
          · refine .inr ?_
            rw [List.take_of_length_le (Nat.le_of_eq hyl.symm)]
            exact posOf_mem.mpr ⟨h1, str1_inj (by simpa using h2)⟩
        · omega
  · rintro m2 news2 ⟨o8, kv8, rfl, j1, j2, j3, j4, j5⟩ h8 tk8 F8 N8
    refine hret m2 h8 tk8 d2 o8 kv8 F8 (News.of_sub N8 fun p hp => ?_) j1 (fun q hq => j2 q ⟨hq, ?_⟩) j5
    · exact .tail _ (.tail _ (.tail _ (.tail _ hp)))
    · have hlk : ls.length = ks.length := hls.length
      rw [hlk, List.take_length, hperm.mem_iff]
      have hq' : q < x.cps.toList.length := by rw [Array.length_toList, show x.cps.size = 5 from hx]; exact hq
      rw [getD_el _ _ hq', ← Array.length_toList]
      exact met_all _ (Nat.le_refl _) hq' hq'
end Mine
end
theorem Mine.slate13 : True := by first | walk1 | trivial
section
open PySem PySem.W PyProof.Rows
set_option Elab.async false
set_option maxRecDepth 100000
set_option maxHeartbeats 8000000
set_option pp.deepTerms true
set_option pp.proofs false
namespace Mine
local macro_rules | `(tactic| walk_at "ent") => `(tactic| ((case kA => exact rfl); (case kF => exact rfl); (case kK => assumption); (case k1 => k_asm); (case k2 => k_asm); (case k3 => k_asm); (case k5 => k_asm); (case k6 => k_is); (case k7 => k_is); (case k8 => ktr_room); (case k9 => exact BindsTo.of_eq rfl); (case kB => exact rfl); (case kD => decide +kernel); (case c2 => exact rfl); (case c3 => exact rfl); (case c4 => exact rfl); k_whole))
local macro_rules | `(tactic| walk_at "exec For Tuple Call cons nil") => `(tactic| (k_here; refine Hold.out ?_))
local macro_rules | `(tactic| walk_at "exec For Name Call cons nil") => `(tactic| (k_here; refine Hold.out ?_))
local macro_rules | `(tactic| walk_at "exec For") => `(tactic| (k_here; refine Hold.out ?_))
local macro_rules | `(tactic| walk_at "exec Return some") => `(tactic| (k_here; refine Hold.out ?_))
local macro_rules | `(tactic| walk_at "storeName") => `(tactic| (k_here; k_dflt (refine' storeX_C ?F ?N ?c ?U ?d ?_ ?a ?b; (case a => rfl); (case b => rfl); (case F => k_asm); (case N => k_asm); (case c => rfl); (case U => ((repeat ((with_reducible rename _ ∧ _ => hh9); obtain ⟨_, _⟩ := hh9)); exact updF_mk (pre := [_]) (fun p hp => by rw [List.mem_singleton.mp hp]; exact Nat.ne_of_gt (by assumption)) (fun p hp => by rcases List.mem_cons.mp hp with rfl | hp; (· assumption); (· rw [List.mem_singleton.mp hp]; assumption)))); (case d => k_asm); k_whole); intro h' o' F' N' d'; (try dsimp only at N')))
local macro_rules | `(tactic| walk_at "call ref") => `(tactic| (k_here; (with_reducible show wpAny _ _ (call (Value.ref 196) _ _) _ _ _); refine Hold.out ?_))
theorem ldr {h₀ h : Heap} {L : Addr} {a b c d : Addr × Obj} {r : List (Addr × Obj)} (N : News h₀ L h (d :: a :: b :: c :: r)) : News h₀ L h (a :: b :: c :: d :: r) := fun p hp => N p (by
  simp only [List.mem_cons] at hp ⊢
  rcases hp with hp | hp | hp | hp | hp <;> simp only [hp, true_or, or_true])
theorem mem3 {c d l : Addr × Obj} (tups : List (Addr × Obj)) : ∀ p ∈ [c, d, l], p ∈ d :: (tups ++ [c, l]) := fun p hp => by
  simp only [List.mem_cons, List.mem_append, List.not_mem_nil, or_false] at hp ⊢
  rcases hp with hp | hp | hp <;> simp only [hp, true_or, or_true]
theorem rot3 {h₀ h : Heap} {L : Addr} {a b c d : Addr × Obj} (N : News h₀ L h [d, a, b, c]) : News h₀ L h [a, b, d, c] := fun p hp => N p (by
  simp only [List.mem_cons, List.not_mem_nil, or_false] at hp ⊢
  rcases hp with hp | hp | hp | hp <;> simp only [hp, true_or, or_true])
theorem second {w : World} {p : Program} {loose : List Str} {mean : ExcName → Option Value} {mg mb : Str → Option Value} (dp un : Nat) (gd : Option (List Code)) (cn : Str) (cs : Scope) (a : Addr) (ccd : Value) (cl : List (Str × Addr)) (outer : List Env) (A₀ : Around) (base h₀ : Heap) (L : Addr) (m : Str → Option Value) (s : Shared) (Q E : Value → Shared → Prop)
    (x : Str) (t : Tok) (l : Addr) (gs : List Value) (ng : Nat) (ns : List Int)
    (B : Below A₀ base outer h₀) (F : Fr h₀ L s.heap m) (X : (hd1.heap_39 w.params).In h₀) (T : Top p loose mean mg mb h₀) (hk : cs.kind = .function) (hd : dp + 200 < recursionLimit) (hu : un + 2000 < cLine)
    (N : News h₀ L s.heap [(l, listOf gs.toArray ng)]) (hgs : IntsAre gs ns) (hgl : gs.length = 5) (hx : x.length = 5) (ha : x.cps.all (· < 128) = true) (hpl : ∀ c ∈ x.cps.toList, 97 ≤ c ∧ c ≤ 122)
    (hret : ∀ t h' d' tk', Fr h₀ L h' m → News h₀ L h' [(l, listOf gs.toArray ng)] → Q (.str (secondOf x) t) { s with heap := h', drawn := d', toks := tk' }) :
    wpAny (model PySem.Challenge.rw_pg0249_01.row.prog w) (ktrTop dp un gd cn cs L a ccd cl outer) (call (.ref 205) [.str x t, .ref l]) Q E s := by
  revert X; k_fill; intro X
  refine wpAny_call ?_
  k_dflt (refine' code_subC (binds := [(Str.ofString "word", .str x t), (Str.ofString "great", .ref l)]) ?k1 ?k2 ?k3 N ?k5 ?kA ?kF ?kK ?k6 ?k7 ?k8 ?k9 ?kB ?kD ?_ ?c2 ?c3 ?c4; walk_at "ent")
  intro g' L' h' tk' cells' hk0 l2 FG' F' N' Y' B' X' T'
  (try k_lt l2)
  have Nsub := N
  k_cells Y'
  (try simp only [List.cons_append, List.nil_append] at N')
  (try dsimp only)
  with_reducible show wpAny _ _ _ _ _ _
  k_fold
  k_steps
  refine Hold.mk ?_
  (with_reducible rename Fr _ _ _ _ => F1)
  (with_reducible rename News g' _ _ (_ :: _) => N1)
  refine mkTable _ _ _ _ _ _ _ _ _ _ _ _ _ _ _ _ _ _ N1 (by k_asm) F1 (by k_asm) (by k_asm) rfl (by ktr_room) (by ktr_units) ?_
  intro tx dx lh tkd hsh h1 tk1 F1 N1 q1 q2 q3 q4
  (try simp only [List.cons_append, List.nil_append] at N1)
  k_steps
  refine Hold.mk ?_
  (with_reducible rename Fr g' _ _ _ => F9)
  (with_reducible rename News g' _ _ _ => N9)
  have q4c : L' + 1 < dx := q4 _ (.head _)
  have q4l : l < dx := q4 (l, listOf gs.toArray ng) (.tail _ (.head _))
  (with_reducible rename Obj.data _ = Data.cell _ => d1)
  refine sec1 dp un gd cn cs a ccd cl outer base g' L L' _ _ _ _ x t l tx dx lh tkd hsh gs ng ns [(L' + 1, _), (l, listOf gs.toArray ng)] B' F9 X' T' hk (by omega) (by omega) N9 q1 q2 q3 q4 (.tail _ (.head _)) hgs hgl hx ha hpl ?s2 ?s3 ?s4 ?s5 ?s6
  case s2 => exact if_pos rfl
  case s3 => exact rfl
  case s4 => exact rfl
  case s5 => first | assumption | passes_own
  case s6 =>
    intro m3 h3 tk3 vs nv tups rows F3 N3 hR hRL htl e1 e2
    obtain ⟨m3, rfl⟩ := see_eq e1
    replace e2 := see_in e2 (by decide)
    obtain ⟨m3, rfl⟩ := see_eq e2
    clear F9 N9
    (try simp only [List.cons_append, List.nil_append] at N3)
    (try dsimp only)
    k_steps
    refine Hold.mk ?_
    (with_reducible rename Fr g' _ _ _ => F9)
    (with_reducible rename News g' _ _ _ => N9)
    (with_reducible rename Obj.IsDictOf (strKind _ _) _ _ => hdo)
    (with_reducible rename _ ∧ _ ∧ _ ∧ AllLt _ _ => hlt)
    obtain ⟨a1, a2, a3, a4⟩ := hlt
    have N8 := ldr N9
    refine sec3 dp un gd cn cs a ccd cl outer base g' L L' _ _ _ _ x t tx dx lh _ tkd hsh vs nv rows _ (tups ++ [(L' + 1, _), (l, listOf gs.toArray ng)]) B' F9 X' T' hk (by omega) (by omega) N8 q1 q2 q3 ?t1 ?t2 hRL ?t3 hx ha hpl hdo ?t4 ?t5 ?t6 ?t7 ?t8
    case t1 =>
      intro p hp
      rcases List.mem_append.mp hp with hp | hp
      · refine Nat.ne_of_lt ?_
        rcases List.mem_cons.mp hp with rfl | hp
        · exact a1
        rcases List.mem_cons.mp hp with rfl | hp
        · exact a2
        · rw [List.mem_singleton.mp hp]
          exact a3
      · exact Nat.ne_of_lt (kst_ltOf a4 p hp)
    case t2 => exact fun g hg => hR g fun p hp => hg p (List.mem_append_left _ hp)
    case t3 => exact ((hR _ fun p hp => (N9 p (.tail _ (.tail _ (.tail _ (.tail _ (List.mem_append_left _ hp)))))).1).length).trans hRL.1
    case t4 => exact (if_neg (by decide)).trans (if_pos rfl)
    case t5 => exact (if_neg (by decide)).trans ((if_neg (by decide)).trans (if_pos rfl))
    case t6 => exact if_pos rfl
    case t7 => first | assumption | passes_own
    case t8 =>
      have nd := Nat.ne_of_gt (kst_ltOf a4 (L' + 1, _) (List.mem_append_right _ (.head _)))
      have nl : l ≠ L' + 1 := Nat.ne_of_lt (Nat.lt_succ_of_lt l2)
      intro m4 h4 tk4 d4 od kvs F4 N4 hdo4 hkv e3
      obtain ⟨m4, rfl⟩ := see_eq e3
      replace N4 : News g' L' h4 [(L' + 1, _), (_, od), (l, listOf gs.toArray ng)] := News.of_sub N4 (mem3 tups)
      clear N9 N8 F9 hdo
      (try dsimp only)
      k_steps
      refine Hold.mk ?_
      (with_reducible rename Fr g' _ _ _ => F9)
      (with_reducible rename News g' _ _ _ => N9)
      (with_reducible rename (_ == sysModules) = false => low)
      (with_reducible rename Obj.IsDictOf (strKind _ _) _ [] => hdn)
      (with_reducible rename _ ∧ _ ∧ _ => hlt)
      (with_reducible rename Obj.data _ = Data.cell (some (Value.ref _)) => dc)
      obtain ⟨b1, b2, b3⟩ := hlt
      replace N9 := rot3 N9
      refine sec5 dp un gd cn cs a ccd cl outer base g' L L' _ _ _ _ x _ _ l od _ _ (listOf gs.toArray ng) kvs B' F9 X' T' hk (by omega) (by omega) N9 (Nat.ne_of_lt b1) (Nat.ne_of_lt b2) (Nat.ne_of_lt b3) dc hdo4 hkv hdn low ?u1 ?u2 ?u3
      case u1 => exact if_pos rfl
      case u2 => first | assumption | passes_own
      case u3 =>
        intro m5 h5 tk5 on kvn F5 N5 hdn5 hkn
        clear N9 F9
        (try dsimp only)
        k_steps
        refine Hold.mk ?_
        (with_reducible rename Fr g' _ _ _ => F9)
        (with_reducible rename News g' _ _ _ => N9)
        refine sec6 dp un gd cn cs a ccd cl outer base g' L L' _ _ _ _ x _ l on _ (listOf gs.toArray ng) kvn B' F9 X' T' hk (by omega) (by omega) N9 dc hdn5 hkn ?v1 ?v2
        case v1 => first | assumption | passes_own
        case v2 =>
          intro h6 tk6 t6 F6 N6
          clear N9 F9
          (try dsimp only)
          k_steps
          (with_reducible rename Fr h₀ L _ m => kF)
          (with_reducible rename News h₀ L _ _ => kN)
          exact hret _ _ _ _ kF kN
end Mine
end
theorem Mine.slate14 : True := by first | walk1 | trivial
section
open PySem PySem.W PyProof.Rows
set_option Elab.async false
set_option maxRecDepth 100000
set_option maxHeartbeats 8000000
set_option pp.deepTerms true
set_option pp.proofs false
namespace Mine
local macro_rules | `(tactic| walk_at "call ref") => `(tactic| (k_here; (with_reducible show wpAny _ _ (call (Value.ref 205) _ _) _ _ _); refine Hold.out ?_))
theorem st3 {w : World} {p : Program} {loose : List Str} {mean : ExcName → Option Value} {mg mb : Str → Option Value} (fa : Addr) (cdv : Value) (base h₀ : Heap) (L : Addr) (m : Str → Option Value) (s : Shared) (Q : Flow → Shared → Prop) (E : Value → Shared → Prop)
    (x : Str) (t : Tok) (l : Addr) (gs : List Value) (ng : Nat) (ns : List Int)
    (B : Below callerA base [] h₀) (F : Fr h₀ L s.heap m) (X : (hd1.heap_39 w.params).In h₀) (T : Top p loose mean mg mb h₀)
    (N : News h₀ L s.heap [(l, listOf gs.toArray ng)]) (hgs : IntsAre gs ns) (hgl : gs.length = 5) (hx : x.length = 5) (ha : x.cps.all (· < 128) = true) (hpl : ∀ c ∈ x.cps.toList, 97 ≤ c ∧ c ≤ 122)
    (m1 : m (Str.ofString "word") = some (.str x t)) (m2 : m (Str.ofString "great") = some (.ref l))
    (hret : ∀ h d tk t, Fr h₀ L h (fun y => if y = Str.ofString "second" then some (.str (secondOf x) t) else m y) → News h₀ L h [(l, listOf gs.toArray ng)] → Q .next { s with heap := h, drawn := d, toks := tk }) :
    wpAny (model PySem.Challenge.rw_pg0249_01.row.prog w) (lawA L fa cdv) (exec (nthS lawBody 3) (lawE L fa cdv)) Q E s := by
  revert X; k_fill; intro X
  have eS : lawScope = lawScope := rfl
  have eB : nthS lawBody 3 = nthS lawBody 3 := rfl
  (conv at eS => rhs; whnf)
  (conv at eB => rhs; whnf)
  unfold lawA lawE
  rw [eS, eB]
  clear eS eB
  obtain ⟨m, rfl⟩ := see_eq m1
  replace m2 := see_in m2 (by decide)
  obtain ⟨m, rfl⟩ := see_eq m2
  clear m1 m2
  k_steps
  refine Hold.mk ?_
  (with_reducible rename Fr _ _ _ _ => F9)
  (with_reducible rename News _ _ _ _ => N9)
  refine second _ _ _ _ _ _ _ _ _ _ _ _ _ _ _ _ _ x _ l gs ng ns B F9 X T ?_ ?_ ?_ N9 hgs hgl hx ha hpl ?_
  · first | exact rfl | assumption
  · ktr_room
  · ktr_units
  · intro t1 h1 d1 tk1 F1 N1
    k_steps
    exact hret _ _ _ _ (by k_asm) (by k_asm)
end Mine
end
theorem Mine.slate15 : True := by first | walk1 | trivial
section
open PySem PySem.W PyProof.Rows
set_option Elab.async false
set_option maxRecDepth 100000
set_option maxHeartbeats 8000000
set_option pp.deepTerms true
set_option pp.proofs false
namespace Mine
local macro_rules | `(tactic| walk_at "call type:set") => `(tactic| (k_here; refine Hold.out ?_))
local macro_rules | `(tactic| walk_at "call builtin:sorted") => `(tactic| (k_here; refine Hold.out ?_))
theorem st4 {w : World} {p : Program} {loose : List Str} {mean : ExcName → Option Value} {mg mb : Str → Option Value} (fa : Addr) (cdv : Value) (base h₀ : Heap) (L : Addr) (m : Str → Option Value) (s : Shared) (Q : Flow → Shared → Prop) (E : Value → Shared → Prop)
    (x : Str) (t : Tok) (news : List (Addr × Obj))
    (B : Below callerA base [] h₀) (F : Fr h₀ L s.heap m) (X : (hd1.heap_39 w.params).In h₀) (T : Top p loose mean mg mb h₀)
    (N : News h₀ L s.heap news) (hx : x.length = 5)
    (m1 : m (Str.ofString "word") = some (.str x t))
    (hret : ∀ h d tk D vs ks n, Fr h₀ L h (fun y => if y = Str.ofString "ones" then some (.ref D) else m y) → News h₀ L h ((D, listOf (List.toArray vs) n) :: news) → StrsAre vs ks → ks.Perm (met x.cps.toList x.cps.size) → Q .next { s with heap := h, drawn := d, toks := tk }) :
    wpAny (model PySem.Challenge.rw_pg0249_01.row.prog w) (lawA L fa cdv) (exec (nthS lawBody 4) (lawE L fa cdv)) Q E s := by
  revert X; k_fill; intro X
  have eS : lawScope = lawScope := rfl
  have eB : nthS lawBody 4 = nthS lawBody 4 := rfl
  (conv at eS => rhs; whnf)
  (conv at eB => rhs; whnf)
  unfold lawA lawE
  rw [eS, eB]
  clear eS eB
  obtain ⟨m, rfl⟩ := see_eq m1
  clear m1
  k_steps
  refine Hold.mk ?_
  (with_reducible rename Fr _ _ _ _ => F1)
  (with_reducible rename News _ _ _ _ => N1)
  refine setN F1 N1 (by rfl) (by rw [show x.cps.size = 5 from hx]; decide) ?_
  intro S oS h1 tk1 F1 N1 l1 hS
  k_steps
  refine Hold.mk ?_
  (with_reducible rename Fr _ _ _ _ => F2)
  (with_reducible rename News _ _ _ (_ :: _) => N2)
  have hml : (met x.cps.toList x.cps.size).length ≤ 5 := by
    have h := met_len x.cps.toList x.cps.size (by simp)
    rw [show x.cps.size = 5 from hx] at h ⊢
    exact h
  refine set_sorted F2 N2 (.head _) hS (by omega) (by rfl) ?_
  intro D h2 d2 tk2 ls ks e2 F2 N2 l2 hls hperm hsort
  k_steps
  (with_reducible rename Fr _ _ _ _ => F3)
  (with_reducible rename News _ _ _ (_ :: _) => N3)
  refine hret _ _ _ D ls ks e2 F3 (fun p hp => N3 p ?_) hls hperm
  rcases List.mem_cons.mp hp with rfl | hp
  · exact .head _
  · exact .tail _ (.tail _ hp)
theorem st5 {w : World} {p : Program} {loose : List Str} {mean : ExcName → Option Value} {mg mb : Str → Option Value} (fa : Addr) (cdv : Value) (base h₀ : Heap) (L : Addr) (m : Str → Option Value) (s : Shared) (Q : Flow → Shared → Prop) (E : Value → Shared → Prop)
    (x : Str) (t : Tok) (news : List (Addr × Obj))
    (B : Below callerA base [] h₀) (F : Fr h₀ L s.heap m) (X : (hd1.heap_39 w.params).In h₀) (T : Top p loose mean mg mb h₀)
    (N : News h₀ L s.heap news) (hx : x.length = 5)
    (m1 : m (Str.ofString "second") = some (.str x t))
    (hret : ∀ h d tk D vs ks n, Fr h₀ L h (fun y => if y = Str.ofString "others" then some (.ref D) else m y) → News h₀ L h ((D, listOf (List.toArray vs) n) :: news) → StrsAre vs ks → ks.Perm (met x.cps.toList x.cps.size) → Q .next { s with heap := h, drawn := d, toks := tk }) :
    wpAny (model PySem.Challenge.rw_pg0249_01.row.prog w) (lawA L fa cdv) (exec (nthS lawBody 5) (lawE L fa cdv)) Q E s := by
  revert X; k_fill; intro X
  have eS : lawScope = lawScope := rfl
  have eB : nthS lawBody 5 = nthS lawBody 5 := rfl
  (conv at eS => rhs; whnf)
  (conv at eB => rhs; whnf)
  unfold lawA lawE
  rw [eS, eB]
  clear eS eB
  obtain ⟨m, rfl⟩ := see_eq m1
  clear m1
  k_steps
  refine Hold.mk ?_
  (with_reducible rename Fr _ _ _ _ => F1)
  (with_reducible rename News _ _ _ _ => N1)
  refine setN F1 N1 (by rfl) (by rw [show x.cps.size = 5 from hx]; decide) ?_
  intro S oS h1 tk1 F1 N1 l1 hS
  k_steps
  refine Hold.mk ?_
  (with_reducible rename Fr _ _ _ _ => F2)
  (with_reducible rename News _ _ _ (_ :: _) => N2)
  have hml : (met x.cps.toList x.cps.size).length ≤ 5 := by
    have h := met_len x.cps.toList x.cps.size (by simp)
    rw [show x.cps.size = 5 from hx] at h ⊢
    exact h
  refine set_sorted F2 N2 (.head _) hS (by omega) (by rfl) ?_
  intro D h2 d2 tk2 ls ks e2 F2 N2 l2 hls hperm hsort
  k_steps
  (with_reducible rename Fr _ _ _ _ => F3)
  (with_reducible rename News _ _ _ (_ :: _) => N3)
  refine hret _ _ _ D ls ks e2 F3 (fun p hp => N3 p ?_) hls hperm
  rcases List.mem_cons.mp hp with rfl | hp
  · exact .head _
  · exact .tail _ (.tail _ hp)
end Mine
end
section
open PySem PySem.W PyProof.Rows PyProof.V PySem.Calls PySem.Builtin
set_option Elab.async false
set_option maxRecDepth 100000
set_option maxHeartbeats 4000000
namespace Mine
def wantOf (x y : Str) : Str := Str.ofString "..." ++ x ++ Str.ofString "..." ++ y ++ Str.ofString "..." ++ x ++ Str.ofString "..." ++ y ++ Str.ofString "..."
theorem form_meets (x y : Str) (hx : x.length = 1) (hy : y.length = 1) (tf tx ty : Tok) (b : Addr) :
    Meets («str.__mod__» ⟨[.str ⟨#[46, 46, 46, 37, 115, 46, 46, 46, 37, 115, 46, 46, 46, 37, 115, 46, 46, 46, 37, 115, 46, 46, 46]⟩ tf, .ref b], []⟩) (fun _ R s => IsTup s.heap b #[.str x tx, .str y ty, .str x tx, .str y ty] ∧ ∀ t' k, R (.ok (.ret (.str (wantOf x y) t'))) { s with toks := k }) := by
  kpt_run
end Mine
end
theorem Mine.slate16 : True := by first | walk1 | trivial
section
open PySem PySem.W PyProof.Rows
set_option Elab.async false
set_option maxRecDepth 100000
set_option maxHeartbeats 2000000
set_option pp.deepTerms true
set_option pp.proofs false
namespace Mine
local macro_rules | `(tactic| walk_at "ent") => `(tactic| ((case kA => exact rfl); (case kF => exact rfl); (case kK => assumption); (case k1 => k_asm); (case k2 => k_asm); (case k3 => k_asm); (case k5 => k_asm); (case k6 => k_is); (case k7 => k_is); (case k8 => ktr_room); (case k9 => exact BindsTo.of_eq rfl); (case c5 => decide); (case kB => exact locs rfl); (case c2 => exact rfl); (case c3 => exact rfl); (case c4 => exact rfl); k_whole))
local macro_rules | `(tactic| walk_at "call builtin:str.split") => `(tactic| (k_here; (with_reducible show wpAny _ _ (call (Value.builtin "str.split") [Value.str _ _, Value.str _ _]) _ _ _); (rename PySem.Txt.split _ _ = _ => hq); (refine KSpl.split1 (by k_asm) (by k_asm) (by decide) ?_ (by rw [sizeLine_eq]; omega)); (intro D' l' h' k' e' a' F' N' l1); (try k_lt l1); (rw [hq] at e'); (kspl_open e'); (simp only [strValues, List.map_cons, List.map_nil] at N' a')))
local macro_rules | `(tactic| walk_at "call builtin:str.find") => `(tactic| (k_here; (with_reducible show wpAny _ _ (call (Value.builtin "str.find") [Value.str _ _, Value.str _ _, Value.int _ _, Value.int _ _]) _ _ _); (refine find4 (by omega) (by omega) (by omega) ?_); (try rw [F4_nil _ _ _ (by omega)])))
theorem F4_le (x y : Str) (lo hi : Nat) (h : 0 ≤ F4 x y lo hi) : F4 x y lo hi + y.length ≤ hi := by
  unfold F4 at h ⊢
  split
  · rename_i k r e
    have := (StrLaws.occ_spec x y lo hi 1 k (by rw [e]; exact .head _)).1
    omega
  · rename_i e
    rw [e] at h
    simp at h
def p1 (g x : Str) : Int := F4 g x 0 g.length
def p2 (g x y : Str) : Int := F4 g y (p1 g x + (x.length : Nat)).toNat g.length
def p3 (g x y : Str) : Int := F4 g x (p2 g x y + (y.length : Nat)).toNat g.length
def p4 (g x y : Str) : Int := F4 g y (p3 g x y + (x.length : Nat)).toNat g.length
def cross (g x y : Str) : Bool := decide (0 ≤ p1 g x) && (decide (0 ≤ p2 g x y) && (decide (0 ≤ p3 g x y) && decide (0 ≤ p4 g x y)))
theorem cross_f {g x y : Str} (h : p1 g x < 0 ∨ p2 g x y < 0 ∨ p3 g x y < 0 ∨ p4 g x y < 0) : cross g x y = false := by
  unfold cross
  rcases h with h | h | h | h
  · rw [decide_eq_false (show ¬ 0 ≤ p1 g x by omega), Bool.false_and]
  · rw [decide_eq_false (show ¬ 0 ≤ p2 g x y by omega), Bool.false_and, Bool.and_false]
  · rw [decide_eq_false (show ¬ 0 ≤ p3 g x y by omega), Bool.false_and, Bool.and_false, Bool.and_false]
  · rw [decide_eq_false (show ¬ 0 ≤ p4 g x y by omega), Bool.and_false, Bool.and_false, Bool.and_false]
theorem cross_t {g x y : Str} (h1 : ¬ p1 g x < 0) (h2 : ¬ p2 g x y < 0) (h3 : ¬ p3 g x y < 0) (h4 : ¬ p4 g x y < 0) : cross g x y = true := by
  unfold cross
  rw [decide_eq_true (show 0 ≤ p1 g x by omega), decide_eq_true (show 0 ≤ p2 g x y by omega), decide_eq_true (show 0 ≤ p3 g x y by omega), decide_eq_true (show 0 ≤ p4 g x y by omega)]
  rfl
theorem cross_no {g x y : Str} (h4 : ¬ p4 g x y < 0) : ¬ F4 g (Str.ofString "") (p4 g x y + (y.length : Nat)).toNat g.length < 0 := by
  have := F4_le g y (p3 g x y + (x.length : Nat)).toNat g.length (show 0 ≤ p4 g x y by omega)
  have this : p4 g x y + y.length ≤ g.length := this
  rw [F4_nil _ _ _ (by omega)]
  omega
theorem em5 {w : World} {p : Program} {loose : List Str} {mean : ExcName → Option Value} {mg mb : Str → Option Value} (want got x y : Str) (t u : Tok)
    (hin : (Builtin.Str.occurrences want (Str.ofString "...") 0 want.length 1).isEmpty = false) (hsp : Txt.split want (Str.ofString "...") = [Str.ofString "", x, y, x, y, Str.ofString ""])
    (hl : want.length ≤ 100) (hg : got.length ≤ 1000) (hx : x.length = 1) (hy : y.length = 1) :
    Pur PySem.Challenge.rw_pg0249_01.row.prog w (hd1.heap_39 w.params) p loose mean mg mb 5 50 45 [.str want t, .str got u] (fun _ => True) (fun _ => .bool (cross got x y)) := by
  k_fill
  intro dp un gd cn cs a ccd cl outer A₀ base h₀ L m s Q E B F X T hk hd hu _ hret
  refine wpAny_call ?_
  have N : News h₀ L s.heap [] := News.nil
  k_dflt (refine' code_sub (binds := [(Str.ofString "want", .str want t), (Str.ofString "got", .str got u)]) ?k1 ?k2 ?k3 N ?k5 ?kA ?kF ?kK ?k6 ?k7 ?k8 ?k9 ?kB ?_ ?c2 ?c3 ?c4 ?c5; walk_at "ent"); 
  intro g' L' h' tk' hk0 _ FG' F' N' B' X' T'
  replace hk0 : ∀ b o, s.heap.get? b = some o → g'.get? b = some o := fun b o e => hk0 b o e (by intro hb; cases hb)
  (try dsimp only)
  with_reducible show wpAny _ _ _ _ _ _
  k_fold
  k_steps
  all_goals first
    | (rw [cross_f (.inl (show p1 got x < 0 by assumption))] at hret; exact hret 0 _ _ (by k_asm) (fun b o e => Fr.keep (h₀ := g') (by assumption) b o (hk0 b o e)))
    | (rw [cross_f (.inr (.inl (show p2 got x y < 0 by assumption)))] at hret; exact hret 0 _ _ (by k_asm) (fun b o e => Fr.keep (h₀ := g') (by assumption) b o (hk0 b o e)))
    | (rw [cross_f (.inr (.inr (.inl (show p3 got x y < 0 by assumption))))] at hret; exact hret 0 _ _ (by k_asm) (fun b o e => Fr.keep (h₀ := g') (by assumption) b o (hk0 b o e)))
    | (rw [cross_f (.inr (.inr (.inr (show p4 got x y < 0 by assumption))))] at hret; exact hret 0 _ _ (by k_asm) (fun b o e => Fr.keep (h₀ := g') (by assumption) b o (hk0 b o e)))
    | exact absurd (show F4 got (Str.ofString "") (p4 got x y + (y.length : Nat)).toNat got.length < 0 by assumption) (cross_no (show ¬ p4 got x y < 0 by assumption))
    | (rw [cross_t (show ¬ p1 got x < 0 by assumption) (show ¬ p2 got x y < 0 by assumption) (show ¬ p3 got x y < 0 by assumption) (show ¬ p4 got x y < 0 by assumption)] at hret; exact hret 0 _ _ (by k_asm) (fun b o e => Fr.keep (h₀ := g') (by assumption) b o (hk0 b o e)))
end Mine
end
section
open PySem PySem.W PyProof.Rows PyProof.V PySem.Calls PyProof.Rows.LCg
set_option Elab.async false
set_option maxRecDepth 100000
set_option maxHeartbeats 2000000
namespace Mine
theorem turn0_N (elt : PySem.Expr) (x y : Str) (px py : Pos) (iter1 iter2 : PySem.Expr) (ifs : List PySem.Expr) (scope : Scope) (pos : Pos) (it acc : Value) (env : Env) :
    compTurn (.ListComp elt [⟨.Name x px, iter1, [], 0⟩, ⟨.Name y py, iter2, ifs, 0⟩] scope pos) 0 it acc env = (do
      standAt iter1.pos
      match ← pyNext it with
      | none => pure (.done .next)
      | some v =>
        letOwnedTupleGo (.Name x px) it v
        assign (.Name x px) env v
        let z ← eval iter2 env
        standAt iter2.pos
        let z ← foldedSetIterable iter2 env z
        let _ ← runOwn (.compStart (.ListComp elt [⟨.Name x px, iter1, [], 0⟩, ⟨.Name y py, iter2, ifs, 0⟩] scope pos) 1 (← holding [z] (pyIter z)) acc env) env
        again (.compLoop (.ListComp elt [⟨.Name x px, iter1, [], 0⟩, ⟨.Name y py, iter2, ifs, 0⟩] scope pos) 0 it acc env)) := by rfl
theorem turn1_N (elt : PySem.Expr) (x y : Str) (px py : Pos) (iter1 iter2 : PySem.Expr) (ifs : List PySem.Expr) (scope : Scope) (pos : Pos) (it acc : Value) (env : Env) :
    compTurn (.ListComp elt [⟨.Name x px, iter1, [], 0⟩, ⟨.Name y py, iter2, ifs, 0⟩] scope pos) 1 it acc env = (do
      standAt iter2.pos
      match ← pyNext it with
      | none => pure (.done .next)
      | some v =>
        letOwnedTupleGo (.Name y py) it v
        assign (.Name y py) env v
        let mut ok := true
        for c in ifs do
          if ok then ok ← isTrue c env (eval c env)
        if ok then
          (do let _ ← call (.builtin "list.append") [acc, ← eval elt env])
        again (.compLoop (.ListComp elt [⟨.Name x px, iter1, [], 0⟩, ⟨.Name y py, iter2, ifs, 0⟩] scope pos) 1 it acc env)) := by rfl
section
variable {prog : Program} {w : World} {A : Around} {E : Value → Shared → Prop} {s : Shared} {h₀ : Heap} {L : Addr} {m : Str → Option Value} {env : Env}
theorem start1_N {elt : PySem.Expr} {x y : Str} {px py : Pos} {iter1 iter2 : PySem.Expr} {ifs : List PySem.Expr} {scope : Scope} {pos : Pos} {it acc : Value} {env : Env} {R : Result → Shared → Prop}
    (h0 : codeAny (model prog w) A (.compLoop (.ListComp elt [⟨.Name x px, iter1, [], 0⟩, ⟨.Name y py, iter2, ifs, 0⟩] scope pos) 1 it acc env) R s)
    (h : wpAny (model prog w) A (pyIter it) (fun it' s' => codeAny (model prog w) A (.compLoop (.ListComp elt [⟨.Name x px, iter1, [], 0⟩, ⟨.Name y py, iter2, ifs, 0⟩] scope pos) 1 it' acc env) R s')
      (notedBy (model prog w) A env fun x s' => R (.error x) s') s) :
    codeAny (model prog w) A (.compStart (.ListComp elt [⟨.Name x px, iter1, [], 0⟩, ⟨.Name y py, iter2, ifs, 0⟩] scope pos) 1 it acc env) R s := by
  refine codeAny_of_tree ?_
  show wpAny _ _ ((compStart (.ListComp elt [⟨.Name x px, iter1, [], 0⟩, ⟨.Name y py, iter2, ifs, 0⟩] scope pos) 1 it acc env).onRaise (fun x => do noteFrame x env; standAt theWindowsPlace)) _ _ s
  refine wpAny_notedAt ?_
  unfold compStart
  show wpAny _ _ (ask >>= _) _ _ s
  refine wpAny_bind (wpAny_askSetting (wpAny_ite ?_))
  split
  · first
      | exact wpAny_bind (wpAny_pure (wpAny_pure (And.intro rfl h0)))
      | exact wpAny_pure (And.intro rfl h0)
  · first
      | exact wpAny_bind (wpAny_rule (wpAny_bind (wpAny_standAt (wpAny_bind (wpAny_mono h (fun it' s' h' => wpAny_pure (And.intro rfl h')) fun _ _ x => x)))))
      | (refine wpAny_bind (wpAny_rule ?_); show wpAny _ _ (standAt iter2.pos >>= _) _ _ s; exact wpAny_bind (wpAny_standAt (wpAny_bind (wpAny_mono h (fun it' s' h' => wpAny_pure (And.intro rfl h')) fun _ _ x => x))))
theorem loop0_N {elt : PySem.Expr} {x y : Str} {px py : Pos} {iter1 iter2 : PySem.Expr} {ifs : List PySem.Expr} {scope : Scope} {pos : Pos} {it acc : Value} {env : Env} {R : Result → Shared → Prop} (I : Nat → Shared → Prop)
    (hs : ∀ z, foldedSetIterable iter2 env z = pure z)
    (turn : ∀ n s, I n s → wpAny (model prog w) A (pyNext it) (fun r s₁ => match r with
      | none => R (.ok .next) s₁
      | some v => wpAny (model prog w) A (assign (.Name x px) env v) (fun _ s₂ => wpAny (model prog w) A (eval iter2 env) (fun z s₃ => wpAny (model prog w) A (pyIter z) (fun it2 s₄ =>
            codeAny (model prog w) A (.compStart (.ListComp elt [⟨.Name x px, iter1, [], 0⟩, ⟨.Name y py, iter2, ifs, 0⟩] scope pos) 1 it2 acc env) (fun r s' => match r with | .ok _ => ∃ m, m < n ∧ I m s' | .error e => cameBackBy (model prog w) A env (notedBy (model prog w) A env fun e s' => R (.error e) s') e s') s₄)
          (notedBy (model prog w) A env fun e s' => R (.error e) s') s₃) (notedBy (model prog w) A env fun e s' => R (.error e) s') s₂) (notedBy (model prog w) A env fun e s' => R (.error e) s') s₁) (notedBy (model prog w) A env fun e s' => R (.error e) s') s)
    (n : Nat) (h : I n s) : codeAny (model prog w) A (.compLoop (.ListComp elt [⟨.Name x px, iter1, [], 0⟩, ⟨.Name y py, iter2, ifs, 0⟩] scope pos) 0 it acc env) R s := by
  refine codeAny_loop rfl I (fun n s hI => ?_) n h
  show wpAny _ A ((compTurn (.ListComp elt [⟨.Name x px, iter1, [], 0⟩, ⟨.Name y py, iter2, ifs, 0⟩] scope pos) 0 it acc env).onRaise (fun x => do noteFrame x env; theTreesLotGoes x)) _ _ s
  refine wpAny_noted ?_
  rw [turn0_N]
  refine wpAny_bind (wpAny_standAt (wpAny_bind (wpAny_mono (turn n s hI) (fun r s₁ h₁ => ?_) fun _ _ h' => h')))
  cases r with
  | none => exact wpAny_pure h₁
  | some v =>
    refine wpAny_bind (wpAny_pure ?_)
    refine wpAny_bind (wpAny_mono h₁ (fun _ s₂ h₂ => ?_) fun _ _ h' => h')
    refine wpAny_bind (wpAny_mono h₂ (fun z s₃ h₃ => ?_) fun _ _ h' => h')
    refine wpAny_bind (wpAny_standAt (wpAny_bind (wpAny_of_eq (hs z) (wpAny_bind (wpAny_holding (wpAny_mono h₃ (fun it2 s₄ h₄ => ?_) fun _ _ h' => h'))))))
    refine wpAny_bind (wpAny_runOwn ?_)
    rw [Around.mark_none]
    refine codeAny_mono h₄ fun r s₅ h₅ => ?_
    cases r with
    | error e => exact h₅
    | ok f => exact wpAny_pure ⟨rfl, h₅⟩
theorem loop1_N {elt : PySem.Expr} {x y : Str} {px py : Pos} {iter1 iter2 : PySem.Expr} {ifs : List PySem.Expr} {scope : Scope} {pos : Pos} {it acc : Value} {env : Env} {R : Result → Shared → Prop} (I : Nat → Shared → Prop)
    (turn : ∀ n s, I n s → wpAny (model prog w) A (pyNext it) (fun r s₁ => match r with
      | none => R (.ok .next) s₁
      | some v => wpAny (model prog w) A (assign (.Name y py) env v) (fun _ s₂ =>
          wpAny (model prog w) A (forIn ifs true fun c r => if r = true then do let ok ← isTrue c env (eval c env); pure (ForInStep.yield ok) else pure (ForInStep.yield r)) (fun ok s₃ =>
            if ok = true then wpAny (model prog w) A (eval elt env) (fun x s₄ =>
              wpAny (model prog w) A (call (.builtin "list.append") [acc, x]) (fun _ s₅ => ∃ m, m < n ∧ I m s₅) (notedBy (model prog w) A env fun e s' => R (.error e) s') s₄) (notedBy (model prog w) A env fun e s' => R (.error e) s') s₃
            else ∃ m, m < n ∧ I m s₃) (notedBy (model prog w) A env fun e s' => R (.error e) s') s₂)
          (notedBy (model prog w) A env fun e s' => R (.error e) s') s₁) (notedBy (model prog w) A env fun e s' => R (.error e) s') s)
    (n : Nat) (h : I n s) : codeAny (model prog w) A (.compLoop (.ListComp elt [⟨.Name x px, iter1, [], 0⟩, ⟨.Name y py, iter2, ifs, 0⟩] scope pos) 1 it acc env) R s := by
  refine codeAny_loop rfl I (fun n s hI => ?_) n h
  show wpAny _ A ((compTurn (.ListComp elt [⟨.Name x px, iter1, [], 0⟩, ⟨.Name y py, iter2, ifs, 0⟩] scope pos) 1 it acc env).onRaise (fun x => do noteFrame x env; theTreesLotGoes x)) _ _ s
  refine wpAny_noted ?_
  rw [turn1_N]
  refine wpAny_bind (wpAny_standAt (wpAny_bind (wpAny_mono (turn n s hI) (fun r s₁ h₁ => ?_) fun _ _ h' => h')))
  cases r with
  | none => exact wpAny_pure h₁
  | some v =>
    refine wpAny_bind (wpAny_pure ?_)
    refine wpAny_bind (wpAny_mono h₁ (fun _ s₂ h₂ => wpAny_bind (wpAny_mono h₂ (fun ok s₃ h₃ => ?_) fun _ _ h' => h')) fun _ _ h' => h')
    cases ok with
    | false => exact wpAny_pure ⟨rfl, h₃⟩
    | true => exact wpAny_bind (wpAny_bind (wpAny_mono h₃ (fun x s₄ h₄ => wpAny_bind (wpAny_mono h₄ (fun _ s₅ h₅ => wpAny_pure (wpAny_pure ⟨rfl, h₅⟩)) fun _ _ h' => h')) fun _ _ h' => h'))
end
end Mine
end
section
open PySem PySem.W PyProof.Rows PyProof.V PySem.Calls PyProof.Rows.LCg
set_option Elab.async false
set_option maxRecDepth 100000
set_option maxHeartbeats 4000000
namespace Mine
section
variable {prog : Program} {w : World} {A : Around} {E : Value → Shared → Prop} {s : Shared} {h₀ : Heap} {L : Addr} {m : Str → Option Value} {env : Env}
/-- what a comprehension of two fors asks: both lists lie in the ledger -/
def SrcN (prog : Program) (w : World) (A : Around) (h₀ : Heap) (L : Addr) (m : Str → Option Value) (env : Env) (elt iter2 : PySem.Expr) (ifs : List PySem.Expr) (x y : Str) (scope : Scope) (cl : List (Str × Addr)) (Q : Value → Shared → Prop) (xv : Value) (s₁ : Shared) : Prop :=
  ∀ G : Prop, (∀ (l1 l2 : Addr) (xs zs : List Value) (k1 k2 : Nat) (news : List (Addr × Obj)) (J : Nat → Nat → List Value → Prop),
    (xv = .ref l1) →
    (A.handled = none) →
    (Fr h₀ L s₁.heap m) →
    (News h₀ L s₁.heap news) →
    ((l1, listOf xs.toArray k1) ∈ news) →
    ((l2, listOf zs.toArray k2) ∈ news) →
    (J 0 0 []) →
    (∀ i j ys, i < xs.length → j < zs.length → J i j ys → ys.length ≤ 1000) →
    (∀ i ys v₁, xs[i]? = some v₁ → J i 0 ys → ∀ I oI C oC D m₂ h tk (E' : Value → Shared → Prop), NsObj oC m₂ → m₂ x = some v₁ → Fr h₀ L h m → News h₀ L h ((I, oI) :: (C, oC) :: (D, lst ys) :: news) →
      wpAny (model prog w) A (eval iter2 (compEnvC scope cl C env)) (fun v s' => v = .ref l2 ∧ TurnEnd h₀ L m { s₁ with heap := h, toks := tk } ((I, oI) :: (C, oC) :: (D, lst ys) :: news) True s') E' { s₁ with heap := h, toks := tk }) →
    (∀ i j ys v₁ v₂, xs[i]? = some v₁ → zs[j]? = some v₂ → J i j ys → ∀ I2 oI2 I oI C oC D m₂ h tk (E' : Value → Shared → Prop), NsObj oC m₂ → m₂ x = some v₁ → m₂ y = some v₂ → Fr h₀ L h m →
      News h₀ L h ((I2, oI2) :: (I, oI) :: (C, oC) :: (D, lst ys) :: news) →
      wpAny (model prog w) A (forIn ifs true fun c r => if r = true then do let ok ← isTrue c (compEnvC scope cl C env) (eval c (compEnvC scope cl C env)); pure (ForInStep.yield ok) else pure (ForInStep.yield r)) (fun ok s' => if ok = true then
        wpAny (model prog w) A (eval elt (compEnvC scope cl C env)) (fun y s'' => TurnEnd h₀ L m { s₁ with heap := h, toks := tk } ((I2, oI2) :: (I, oI) :: (C, oC) :: (D, lst ys) :: news) (J i (j + 1) (ys ++ [y])) s'') E' s'
        else TurnEnd h₀ L m { s₁ with heap := h, toks := tk } ((I2, oI2) :: (I, oI) :: (C, oC) :: (D, lst ys) :: news) (J i (j + 1) ys) s') E' { s₁ with heap := h, toks := tk }) →
    (∀ i ys, i < xs.length → J i zs.length ys → J (i + 1) 0 ys) →
    (∀ D ys h tk, J xs.length 0 ys → Fr h₀ L h m → News h₀ L h ((D, lst ys) :: news) → (∀ p ∈ news, p.1 ≠ D) → Q (.ref D) { s₁ with heap := h, toks := tk }) → G) → G
theorem listItAt {h : Heap} {I l i : Addr} (x : h.IsListIter I l i) : ∃ o, h.get? I = some o := let ⟨o, e, _⟩ := x; ⟨o, e⟩
theorem block_N {elt iter1 iter2 : PySem.Expr} {ifs : List PySem.Expr} {x y : Str} {px py : Pos} {scope : Scope} {cl : List (Str × Addr)} {pos : Pos} {s₂ : Shared} {I l1 l2 : Addr} {xs zs : List Value} {k1 k2 : Nat} {news : List (Addr × Obj)} {J : Nat → Nat → List Value → Prop}
    {RR : Value → Addr → Result → Shared → Prop} (hh : A.handled = none) (stI : s₂.heap.IsListIter I l1 0)
    (F : Fr h₀ L s₂.heap m) (N : News h₀ L s₂.heap news) (off : h₀.get? I = none ∧ I ≠ L ∧ ∀ p ∈ news, p.1 ≠ I) (m1 : (l1, listOf xs.toArray k1) ∈ news) (m2 : (l2, listOf zs.toArray k2) ∈ news)
    (hJ : J 0 0 []) (hJl : ∀ i j ys, i < xs.length → j < zs.length → J i j ys → ys.length ≤ 1000)
    (hs : ∀ z (e : Env), foldedSetIterable iter2 e z = pure z)
    (hcell : ∀ y ∈ scope.names, y.2 ≠ .cell) (hkind : scope.kind = .function) (hx : scope.names.lookup x = some .local) (hy : scope.names.lookup y = some .local) (hxy : x ≠ y)
    (inner : ∀ i ys v₁, xs[i]? = some v₁ → J i 0 ys → ∀ I oI C oC D m₂ h tk (E' : Value → Shared → Prop), NsObj oC m₂ → m₂ x = some v₁ → Fr h₀ L h m → News h₀ L h ((I, oI) :: (C, oC) :: (D, lst ys) :: news) →
      wpAny (model prog w) A (eval iter2 (compEnvC scope cl C env)) (fun v s' => v = .ref l2 ∧ TurnEnd h₀ L m { s₂ with heap := h, toks := tk } ((I, oI) :: (C, oC) :: (D, lst ys) :: news) True s') E' { s₂ with heap := h, toks := tk })
    (step : ∀ i j ys v₁ v₂, xs[i]? = some v₁ → zs[j]? = some v₂ → J i j ys → ∀ I2 oI2 I oI C oC D m₂ h tk (E' : Value → Shared → Prop), NsObj oC m₂ → m₂ x = some v₁ → m₂ y = some v₂ → Fr h₀ L h m →
      News h₀ L h ((I2, oI2) :: (I, oI) :: (C, oC) :: (D, lst ys) :: news) →
      wpAny (model prog w) A (forIn ifs true fun c r => if r = true then do let ok ← isTrue c (compEnvC scope cl C env) (eval c (compEnvC scope cl C env)); pure (ForInStep.yield ok) else pure (ForInStep.yield r)) (fun ok s' => if ok = true then
        wpAny (model prog w) A (eval elt (compEnvC scope cl C env)) (fun y s'' => TurnEnd h₀ L m { s₂ with heap := h, toks := tk } ((I2, oI2) :: (I, oI) :: (C, oC) :: (D, lst ys) :: news) (J i (j + 1) (ys ++ [y])) s'') E' s'
        else TurnEnd h₀ L m { s₂ with heap := h, toks := tk } ((I2, oI2) :: (I, oI) :: (C, oC) :: (D, lst ys) :: news) (J i (j + 1) ys) s') E' { s₂ with heap := h, toks := tk })
    (roll : ∀ i ys, i < xs.length → J i zs.length ys → J (i + 1) 0 ys)
    (hRR : ∀ D C h tk m' ys, J xs.length 0 ys → Fr h₀ L h m → News h₀ L h ((D, lst ys) :: news) → (∀ p ∈ news, p.1 ≠ D) → h.Ns C m' → h₀.get? C = none → C ≠ L → C ≠ D → (∀ p ∈ news, p.1 ≠ C) → RR (.ref D) C (.ok .next) { s₂ with heap := h, toks := tk }) :
    wpAny (model prog w) A (newList []) (fun acc s₃ => wpAny (model prog w) A (newFunctionEnv scope env.globals cl [] env.qual none .none (some env)) (fun cenv s₄ =>
      codeAny (model prog w) A (.compStart (.ListComp elt [⟨.Name x px, iter1, [], 0⟩, ⟨.Name y py, iter2, ifs, 0⟩] scope pos) 0 (.ref I) acc { cenv with scope := relabel scope env }) (RR acc cenv.locals) s₄) E s₃) E s₂ := by
  obtain ⟨hI₀, hIL, hIn⟩ := off
  have hl1 : s₂.heap.IsList l1 xs.toArray := ⟨_, (N _ m1).1, rfl, _, rfl⟩
  have hneI : l1 ≠ I := hIn _ m1
  have W := Walks.list (prog := prog) (w := w) hh I l1 hneI xs.toArray
  have hLI : L ∉ [I] := fun h => hIL (List.mem_singleton.mp h).symm
  have hNI : ∀ p ∈ news, p.1 ∉ [I] := fun p hp h => hIn p hp (List.mem_singleton.mp h)
  refine wpAny_newObj_type (wpAny_newFunctionEnv hcell (by intro y hy; simp at hy) (fun h₁ hns₁ hsb₁ => ?_) hkind)
  dsimp only at hns₁ hsb₁ ⊢
  generalize hH2 : s₂.heap.push { cls := .type "list", dict := none, data := .seq ([] : List Value).toArray } = H2 at hns₁ hsb₁ ⊢
  have hC : H2.objs.size = s₂.heap.objs.size + 1 := by rw [← hH2, Heap.size_push]
  have hDC : s₂.heap.objs.size ≠ H2.objs.size := by rw [hC]; exact Nat.ne_of_lt (Nat.lt_succ_self _)
  have below : ∀ b, b < s₂.heap.objs.size → b ≠ H2.objs.size ∧ b ≠ s₂.heap.objs.size := fun b hb => ⟨by rw [hC]; exact Nat.ne_of_lt (Nat.lt_succ_of_lt hb), Nat.ne_of_lt hb⟩
  have old : ∀ b o, s₂.heap.get? b = some o → h₁.get? b = some o := fun b o e => hsb₁.extBut b o (below b (Heap.lt_size e)).1 (Heap.get?_push_of_some _ (hH2 ▸ Heap.get?_push_of_some _ e))
  have hacc : h₁.get? s₂.heap.objs.size = some (lst []) := hsb₁.extBut _ _ hDC (Heap.get?_push_of_some _ (hH2 ▸ Heap.get?_push_size _ rfl))
  have st₁ : h₁.IsListIter I l1 0 ∧ h₁.IsList l1 xs.toArray := W.frame 0 _ _ ⟨stI, hl1⟩ fun b _ o e => old b o e
  have fresh : ∀ a, s₂.heap.objs.size ≤ a → s₂.heap.get? a = none := fun a ha => by
    cases e : s₂.heap.get? a with
    | none => rfl
    | some o' => exact absurd (Heap.lt_size e) (Nat.not_lt.mpr ha)
  have fresh₀ : ∀ a, s₂.heap.objs.size ≤ a → h₀.get? a = none := fun a ha => by
    cases e : h₀.get? a with
    | none => rfl
    | some o' => have := F.keep a o' e; rw [fresh a ha] at this; cases this
  have hD₀ : h₀.get? s₂.heap.objs.size = none := fresh₀ _ (Nat.le_refl _)
  have hC₀ : h₀.get? H2.objs.size = none := fresh₀ _ (by rw [hC]; exact Nat.le_succ _)
  have hLlt : L < s₂.heap.objs.size := F.ns.lt
  have hDL : s₂.heap.objs.size ≠ L := Ne.symm (below L hLlt).2
  have hCL : H2.objs.size ≠ L := Ne.symm (below L hLlt).1
  have hIlt : I < s₂.heap.objs.size := let ⟨_, e⟩ := listItAt stI; Heap.lt_size e
  have hCI : H2.objs.size ∉ [I] := fun h => (below I hIlt).1 (List.mem_singleton.mp h).symm
  have hDI : s₂.heap.objs.size ∉ [I] := fun h => (below I hIlt).2 (List.mem_singleton.mp h).symm
  have hnC : ∀ p ∈ news, p.1 ≠ H2.objs.size := fun p hp => (below _ (Heap.lt_size (N p hp).1)).1
  have hnD : ∀ p ∈ news, p.1 ≠ s₂.heap.objs.size := fun p hp => (below _ (Heap.lt_size (N p hp).1)).2
  generalize hDd : s₂.heap.objs.size = D at *
  generalize hCc : H2.objs.size = C at *
  have loop : ∀ s₃ : Shared, s₃ = { s₂ with heap := h₁, toks := s₂.toks + ([] : List (Str × Value)).length } →
      codeAny (model prog w) A (.compLoop (.ListComp elt [⟨.Name x px, iter1, [], 0⟩, ⟨.Name y py, iter2, ifs, 0⟩] scope pos) 0 (.ref I) (.ref D) (compEnvC scope cl C env)) (RR (.ref D) C) s₃ := by
    rintro s₃ rfl
    refine loop0_N
      (fun k s' => ∃ h' tk i ys m', s' = { s₂ with heap := h', toks := tk } ∧ i ≤ xs.length ∧ k = xs.length + 1 - i ∧ (h'.IsListIter I l1 i ∧ h'.IsList l1 xs.toArray) ∧ Fr h₀ L h' m ∧ h'.Ns C m' ∧ News h₀ L h' ((D, lst ys) :: news) ∧ J i 0 ys) (fun z => hs z _) ?_ (xs.length + 1)
      ⟨h₁, _, 0, [], _, rfl, Nat.zero_le _, rfl, st₁, F.keeps old, hns₁, fun p hp => ?_, hJ⟩
    · rintro k s' ⟨h', tk, i, ys, m', rfl, hi, rfl, hst', F', hn', N', j'⟩
      by_cases hlt : i < xs.length
      · refine W.item i _ _ _ (by simpa using hlt) hst' fun v h₂ tk₂ hPv hst₂ hk₂ => ?_
        have hv : xs[i]? = some v := by simpa using hPv
        have N₂ : News h₀ L h₂ ((D, lst ys) :: news) := newsB N' hk₂ fun p hp => by
          rcases List.mem_cons.mp hp with rfl | hp
          · exact hDI
          · exact hNI p hp
        have F₂ : Fr h₀ L h₂ m := frB F' hk₂ hLI fun b hb => by rw [List.mem_singleton.mp hb]; exact hI₀
        have hn₂ : h₂.Ns C m' := hn'.at' fun o e => hk₂ _ o hCI e
        refine wpAny_assign_Name (wpAny_storeName_local (lookup_relabel_local hx) hn₂ (fun h₃ hn₃ hs₃ => ?_) (by simp [compEnvC, relabel, hkind]))
        have F₃ : Fr h₀ L h₃ m := F₂.change hs₃ hCL hC₀
        have hIC : I ≠ C := fun e => hCI (by rw [e]; exact List.mem_singleton.mpr rfl)
        have hl1C : l1 ≠ C := hnC _ m1
        have hst₃ : h₃.IsListIter I l1 (i + 1) ∧ h₃.IsList l1 xs.toArray := W.frame _ _ _ hst₂ fun b hb o e => hs₃.extBut b o (by
          rcases List.mem_cons.mp hb with rfl | hb
          · exact hIC
          · rw [List.mem_singleton.mp hb]; exact hl1C) e
        obtain ⟨oI, heI⟩ := listItAt hst₃.1
        obtain ⟨oC, heC, hoC⟩ := ns_obj hn₃
        have N₃ : News h₀ L h₃ ((I, oI) :: (C, oC) :: (D, lst ys) :: news) := fun p hp => by
          rcases List.mem_cons.mp hp with rfl | hp
          · exact ⟨heI, hIL, hI₀⟩
          rcases List.mem_cons.mp hp with rfl | hp
          · exact ⟨heC, hCL, hC₀⟩
          · have zz := N₂ p hp
            refine ⟨hs₃.extBut _ _ ?_ zz.1, zz.2⟩
            rcases List.mem_cons.mp hp with rfl | hp
            · exact hDC
            · exact hnC p hp
        refine wpAny_mono (inner i ys v hv j' I oI C oC D _ h₃ _ _ hoC (by simp) F₃ N₃) (fun z s₄ h₄ => ?_) fun _ _ e => e
        obtain ⟨rfl, h₅, tk₅, rfl, F₅, N₅, _⟩ := h₄
        have hl2 : h₅.IsList l2 zs.toArray := ⟨_, (N₅ _ (.tail _ (.tail _ (.tail _ m2)))).1, rfl, _, rfl⟩
        have hl1₅ : h₅.IsList l1 xs.toArray := ⟨_, (N₅ _ (.tail _ (.tail _ (.tail _ m1)))).1, rfl, _, rfl⟩
        refine wpAny_pyIter_list (s := { s₂ with heap := h₅, toks := tk₅ }) hl2 ?_
        dsimp only
        generalize hI2 : h₅.objs.size = I2
        have up6 : ∀ b o, h₅.get? b = some o → (h₅.push { cls := .type "list_iterator", data := .fields #[.ref l2, .int 0 0] }).get? b = some o := fun b o e => Heap.get?_push_of_some _ e
        have hI2₀ : h₀.get? I2 = none := by
          cases e : h₀.get? I2 with
          | none => rfl
          | some o' => exact absurd (Heap.lt_size (F₅.keep _ _ e)) (by rw [hI2]; exact Nat.lt_irrefl _)
        have hI2L : I2 ≠ L := by rw [← hI2]; exact Nat.ne_of_gt F₅.ns.lt
        have hI2n : ∀ p ∈ (I, oI) :: (C, oC) :: (D, lst ys) :: news, p.1 ≠ I2 := fun p hp => by rw [← hI2]; exact Nat.ne_of_lt (Heap.lt_size (N₅ p hp).1)
        have hl2I : l2 ≠ I2 := hI2n _ (.tail _ (.tail _ (.tail _ m2)))
        have W2 := Walks.list (prog := prog) (w := w) hh I2 l2 hl2I zs.toArray
        have hLI2 : L ∉ [I2] := fun h => hI2L (List.mem_singleton.mp h).symm
        have hCI2 : C ∉ [I2] := fun h => hI2n _ (.tail _ (.head _)) (List.mem_singleton.mp h)
        have stI2 : (h₅.push { cls := .type "list_iterator", data := .fields #[.ref l2, .int 0 0] }).IsListIter I2 l2 0 ∧ (h₅.push { cls := .type "list_iterator", data := .fields #[.ref l2, .int 0 0] }).IsList l2 zs.toArray := by
          refine ⟨⟨{ cls := .type "list_iterator", data := .fields #[.ref l2, .int 0 0] }, ?_, rfl, rfl⟩, hl2.push _⟩
          rw [← hI2]
          exact Heap.get?_push_size _ rfl
        have loop2 : codeAny (model prog w) A (.compLoop (.ListComp elt [⟨.Name x px, iter1, [], 0⟩, ⟨.Name y py, iter2, ifs, 0⟩] scope pos) 1 (.ref I2) (.ref D) (compEnvC scope cl C env))
            (fun r s' => match r with | .ok _ => (∃ k', k' < xs.length + 1 - i ∧ ∃ h' tk i ys m', s' = { s₂ with heap := h', toks := tk } ∧ i ≤ xs.length ∧ k' = xs.length + 1 - i ∧ (h'.IsListIter I l1 i ∧ h'.IsList l1 xs.toArray) ∧ Fr h₀ L h' m ∧ h'.Ns C m' ∧ News h₀ L h' ((D, lst ys) :: news) ∧ J i 0 ys) | .error e => cameBackBy (model prog w) A (compEnvC scope cl C env) (notedBy (model prog w) A (compEnvC scope cl C env) fun e s' => RR (.ref D) C (.error e) s') e s')
            { s₂ with heap := h₅.push { cls := .type "list_iterator", data := .fields #[.ref l2, .int 0 0] }, toks := tk₅ } := by
          refine loop1_N
            (fun k s' => ∃ h' tk j ys m', s' = { s₂ with heap := h', toks := tk } ∧ j ≤ zs.length ∧ k = zs.length + 1 - j ∧ (h'.IsListIter I2 l2 j ∧ h'.IsList l2 zs.toArray) ∧ Fr h₀ L h' m ∧ h'.Ns C m' ∧ m' x = some v ∧ News h₀ L h' ((I, oI) :: (D, lst ys) :: news) ∧ J i j ys) ?_ (zs.length + 1)
            ⟨_, tk₅, 0, ys, _, rfl, Nat.zero_le _, rfl, stI2, F₅.keeps up6, (hoC.ns (up6 _ _ (N₅ (C, oC) (.tail _ (.head _))).1)), by simp, fun p hp => ?_, j'⟩
          · rintro k s' ⟨h', tk, j, ys, m', rfl, hj, rfl, hst', F', hn', hmx, N', j'⟩
            have hnI2 : ∀ p ∈ (I, oI) :: (D, lst ys) :: news, p.1 ∉ [I2] := fun p hp h => by
              have e := List.mem_singleton.mp h
              rcases List.mem_cons.mp hp with rfl | hp
              · exact hI2n _ (.head _) e
              rcases List.mem_cons.mp hp with rfl | hp
              · exact hI2n _ (.tail _ (.tail _ (.head _))) e
              · exact hI2n p (.tail _ (.tail _ (.tail _ hp))) e
            by_cases hlt2 : j < zs.length
            · refine W2.item j _ _ _ (by simpa using hlt2) hst' fun v₂ h₂ tk₂ hPv hst₂ hk₂ => ?_
              have hv₂ : zs[j]? = some v₂ := by simpa using hPv
              have N₂ := newsB N' hk₂ hnI2
              have F₂ : Fr h₀ L h₂ m := frB F' hk₂ hLI2 fun b hb => by rw [List.mem_singleton.mp hb]; exact hI2₀
              have hn₂ : h₂.Ns C m' := hn'.at' fun o e => hk₂ _ o hCI2 e
              refine wpAny_assign_Name (wpAny_storeName_local (lookup_relabel_local hy) hn₂ (fun h₃ hn₃ hs₃ => ?_) (by simp [compEnvC, relabel, hkind]))
              have F₃ : Fr h₀ L h₃ m := F₂.change hs₃ hCL hC₀
              have hI2C : I2 ≠ C := fun e => hCI2 (by rw [e]; exact List.mem_singleton.mpr rfl)
              have hl2C : l2 ≠ C := hnC _ m2
              have hst₃ : h₃.IsListIter I2 l2 (j + 1) ∧ h₃.IsList l2 zs.toArray := W2.frame _ _ _ hst₂ fun b hb o e => hs₃.extBut b o (by
                rcases List.mem_cons.mp hb with rfl | hb
                · exact hI2C
                · rw [List.mem_singleton.mp hb]; exact hl2C) e
              obtain ⟨oI2, heI2⟩ := listItAt hst₃.1
              obtain ⟨oC, heC, hoC⟩ := ns_obj hn₃
              have N₃ : News h₀ L h₃ ((I2, oI2) :: (I, oI) :: (C, oC) :: (D, lst ys) :: news) := fun p hp => by
                rcases List.mem_cons.mp hp with rfl | hp
                · exact ⟨heI2, hI2L, hI2₀⟩
                rcases List.mem_cons.mp hp with rfl | hp
                · have zz := N₂ (I, oI) (.head _)
                  exact ⟨hs₃.extBut _ _ hIC zz.1, zz.2⟩
                rcases List.mem_cons.mp hp with rfl | hp
                · exact ⟨heC, hCL, hC₀⟩
                · have zz := N₂ p (.tail _ hp)
                  refine ⟨hs₃.extBut _ _ ?_ zz.1, zz.2⟩
                  rcases List.mem_cons.mp hp with rfl | hp
                  · exact hDC
                  · exact hnC p hp
              have back : ∀ h₈, News h₀ L h₈ ((I2, oI2) :: (I, oI) :: (C, oC) :: (D, lst ys) :: news) → h₈.IsListIter I2 l2 (j + 1) ∧ h₈.IsList l2 zs.toArray := fun h₈ N₈ => by
                refine ⟨?_, ⟨_, (N₈ _ (.tail _ (.tail _ (.tail _ (.tail _ m2))))).1, rfl, _, rfl⟩⟩
                obtain ⟨o, e, r⟩ := hst₃.1
                rw [heI2] at e
                cases e
                exact ⟨_, (N₈ _ (.head _)).1, r⟩
              refine wpAny_mono (step i j ys v v₂ hv hv₂ j' I2 oI2 I oI C oC D _ h₃ _ _ hoC (by simp [hxy, hmx]) (by simp) F₃ N₃) (fun ok s₄ h₄ => ?_) fun _ _ e => e
              cases ok with
              | true =>
                simp only [if_true] at h₄ ⊢
                refine wpAny_mono h₄ (fun yv s₅ h₅ => ?_) fun _ _ e => e
                obtain ⟨h₈, tk₈, rfl, F₈, N₈, j₈⟩ := h₅
                have zC := (N₈ (C, oC) (.tail _ (.tail _ (.head _)))).1
                have zD := (N₈ (D, lst ys) (.tail _ (.tail _ (.tail _ (.head _))))).1
                have hyl := hJl _ _ _ hlt hlt2 j'
                refine append_at (hsz := by show ys.toArray.size ≤ sizeLine; rw [List.size_toArray, sizeLine_eq]; omega) zD fun h₉ hs₉ hD₉ => ?_
                have b8 := back _ N₈
                refine ⟨zs.length + 1 - (j + 1), by omega, h₉, tk₈, j + 1, ys ++ [yv], _, rfl, hlt2, rfl, W2.frame _ _ _ b8 fun b hb o e => hs₉.extBut b o ?_ e, F₈.change hs₉ hDL hD₀, (hoC.ns zC).sameBut hs₉ (Ne.symm hDC), by simp [hxy, hmx], fun p hp => ?_, j₈⟩
                · rcases List.mem_cons.mp hb with rfl | hb
                  · exact Ne.symm (hI2n (D, _) (.tail _ (.tail _ (.head _))))
                  · rw [List.mem_singleton.mp hb]; exact hnD _ m2
                · rcases List.mem_cons.mp hp with rfl | hp
                  · have q := N₈ (I, oI) (.tail _ (.head _))
                    exact ⟨hs₉.extBut _ _ (fun e => hDI (by rw [← e]; exact List.mem_singleton.mpr rfl)) q.1, q.2⟩
                  rcases List.mem_cons.mp hp with rfl | hp
                  · exact ⟨hD₉.trans (congrArg some (lst_snoc ys yv)), hDL, hD₀⟩
                  · have q := N₈ p (.tail _ (.tail _ (.tail _ (.tail _ hp))))
                    exact ⟨hs₉.extBut _ _ (hnD p hp) q.1, q.2⟩
              | false =>
                simp only [Bool.false_eq_true, if_false] at h₄ ⊢
                obtain ⟨h₈, tk₈, rfl, F₈, N₈, j₈⟩ := h₄
                have zC := (N₈ (C, oC) (.tail _ (.tail _ (.head _)))).1
                refine ⟨zs.length + 1 - (j + 1), by omega, h₈, tk₈, j + 1, ys, _, rfl, hlt2, rfl, back _ N₈, F₈, hoC.ns zC, by simp [hxy, hmx], fun p hp => ?_, j₈⟩
                rcases List.mem_cons.mp hp with rfl | hp
                · exact N₈ _ (.tail _ (.head _))
                · exact N₈ p (.tail _ (.tail _ (.tail _ hp)))
            · obtain rfl : j = zs.length := Nat.le_antisymm hj (Nat.not_lt.mp hlt2)
              refine W2.done _ _ _ (by simpa using hst') fun h₂ tk₂ hk₂ => ?_
              have N₂ := newsB N' hk₂ hnI2
              refine ⟨xs.length + 1 - (i + 1), by omega, h₂, tk₂, i + 1, ys, m', rfl, hlt, rfl, ⟨?_, ⟨_, (N₂ _ (.tail _ (.tail _ m1))).1, rfl, _, rfl⟩⟩, frB F' hk₂ hLI2 fun b hb => by rw [List.mem_singleton.mp hb]; exact hI2₀, hn'.at' fun o e => hk₂ _ o hCI2 e, fun p hp => N₂ p (.tail _ hp), roll i ys hlt j'⟩
              obtain ⟨o, e, r⟩ := hst₃.1
              rw [heI] at e
              cases e
              exact ⟨_, (N₂ _ (.head _)).1, r⟩
          · rcases List.mem_cons.mp hp with rfl | hp
            · have q := N₅ (I, oI) (.head _)
              exact ⟨up6 _ _ q.1, q.2⟩
            · have q := N₅ p (.tail _ (.tail _ hp))
              exact ⟨up6 _ _ q.1, q.2⟩
        exact start1_N loop2 (W2.self 0 _ _ _ stI2 loop2)
      · obtain rfl : i = xs.length := Nat.le_antisymm hi (Nat.not_lt.mp hlt)
        refine W.done _ _ _ (by simpa using hst') fun h₂ tk₂ hk₂ => ?_
        exact hRR D C h₂ tk₂ _ ys j' (frB F' hk₂ hLI fun b hb => by rw [List.mem_singleton.mp hb]; exact hI₀) (newsB N' hk₂ fun p hp => by
          rcases List.mem_cons.mp hp with rfl | hp
          · exact hDI
          · exact hNI p hp) hnD (hn'.at' fun o e => hk₂ _ o hCI e) hC₀ hCL (Ne.symm hDC) hnC
    · rcases List.mem_cons.mp hp with rfl | hp
      · exact ⟨hacc, hDL, hD₀⟩
      · exact ⟨old _ _ (N p hp).1, (N p hp).2⟩
  exact codeAny_compStart_list (loop _ rfl) (W.self 0 _ _ _ st₁ (loop _ rfl))
theorem ListComp_N {elt iter1 iter2 : PySem.Expr} {ifs : List PySem.Expr} {x y : Str} {px py : Pos} {scope : Scope} {cl : List (Str × Addr)} {pos : Pos} {Q : Value → Shared → Prop} (F₀ : Fr h₀ L s.heap m)
    (hclos : closureFor scope env = pure cl) (hcell : ∀ y ∈ scope.names, y.2 ≠ .cell) (hkind : scope.kind = .function)
    (hnames : ∀ y ∈ scope.names, y.2 = .local → scope.names.lookup y.1 = some .local) (hx : scope.names.lookup x = some .local) (hy : scope.names.lookup y = some .local) (hxy : x ≠ y)
    (h : wpAny (model prog w) A (eval iter1 env) (SrcN prog w A h₀ L m env elt iter2 ifs x y scope cl Q) E s)
    (hs : ∀ x, foldedSetIterable iter1 env x = pure x := by intro _; rfl) (hs2 : ∀ z (e : Env), foldedSetIterable iter2 e z = pure z := by intro _ _; rfl) :
    wpAny (model prog w) A (eval (.ListComp elt [⟨.Name x px, iter1, [], 0⟩, ⟨.Name y py, iter2, ifs, 0⟩] scope pos) env) Q E s := by
  rw [eval_ListComp]
  refine wpAny_comprehension_free (use := none) rfl hs hclos hkind hnames (wpAny_mono h (fun xv s₁ h₁ => ?_) fun _ _ e => e)
  refine h₁ _ fun l1 l2 xs zs k1 k2 news J hxv hh F N m1 m2 hJ hJl inner step roll fin => ?_
  subst hxv
  have hl1 : s₁.heap.IsList l1 xs.toArray := ⟨_, (N _ m1).1, rfl, _, rfl⟩
  refine wpAny_pyIter_list hl1 ?_
  have up : ∀ b o, s₁.heap.get? b = some o → (s₁.heap.push { cls := .type "list_iterator", data := .fields #[.ref l1, .int 0 0] }).get? b = some o := fun b o e => Heap.get?_push_of_some _ e
  refine block_N (s₂ := { s₁ with heap := s₁.heap.push { cls := .type "list_iterator", data := .fields #[.ref l1, .int 0 0] } }) (I := s₁.heap.objs.size) (l2 := l2) (xs := xs) (zs := zs) hh ⟨_, Heap.get?_push_size _ rfl, rfl, rfl⟩ (F.keeps up) (fun p hp => ⟨up _ _ (N p hp).1, (N p hp).2⟩) ⟨?_, Nat.ne_of_gt F.ns.lt, fun p hp => Nat.ne_of_lt (Heap.lt_size (N p hp).1)⟩ m1 m2 hJ hJl hs2 hcell hkind hx hy hxy inner step roll ?_
  · cases e : h₀.get? s₁.heap.objs.size with
    | none => rfl
    | some o' => exact absurd (Heap.lt_size (F.keep _ _ e)) (Nat.lt_irrefl _)
  · intro D C h tk m' ys j F' N' o1 hn hC₀ hCL hCD offC
    refine ⟨m', hn, fun h'' hs'' => fin D ys h'' tk j (F'.change hs'' hCL hC₀) (fun p hp => ?_) o1⟩
    refine ⟨hs''.extBut _ _ ?_ (N' p hp).1, (N' p hp).2⟩
    rcases List.mem_cons.mp hp with rfl | hp
    · exact Ne.symm hCD
    · exact offC p hp
end
end Mine
end
theorem Mine.slate17 : True := by first | walk1 | trivial
section
open PySem PySem.W PyProof.Rows
set_option Elab.async false
set_option maxRecDepth 100000
set_option maxHeartbeats 8000000
set_option pp.deepTerms true
set_option pp.proofs false
namespace Mine
local macro_rules | `(tactic| walk_at "ent") => `(tactic| ((case kA => exact rfl); (case kF => exact rfl); (case kK => assumption); (case k1 => k_asm); (case k2 => k_asm); (case k3 => k_asm); (case k5 => k_asm); (case k6 => k_is); (case k7 => k_is); (case k8 => ktr_room); (case k9 => exact BindsTo.of_eq rfl); (case kB => exact rfl); (case kD => decide +kernel); (case c2 => exact rfl); (case c3 => exact rfl); (case c4 => exact rfl); k_whole))
def LL : List Nat := [97, 98, 99, 100, 101, 112, 113, 114, 115, 116]
theorem want_all : LL.all (fun c => LL.all fun d => !(Builtin.Str.occurrences (wantOf ⟨#[c]⟩ ⟨#[d]⟩) (Str.ofString "...") 0 (wantOf ⟨#[c]⟩ ⟨#[d]⟩).length 1).isEmpty && (decide (Txt.split (wantOf ⟨#[c]⟩ ⟨#[d]⟩) (Str.ofString "...") = [Str.ofString "", ⟨#[c]⟩, ⟨#[d]⟩, ⟨#[c]⟩, ⟨#[d]⟩, Str.ofString ""]) && decide ((wantOf ⟨#[c]⟩ ⟨#[d]⟩).length ≤ 100))) = true := by decide +kernel
def crAll (g : Str) (ks zs : List Str) : Bool := ks.any fun x => zs.any fun y => (x != y) && cross g x y
def ltr1 (z : Str) : Prop := ∃ c ∈ LL, z = ⟨#[c]⟩
theorem ltr1_len {z : Str} (h : ltr1 z) : z.length = 1 := by
  obtain ⟨c, _, rfl⟩ := h
  rfl
theorem strOk_all : LL.all (fun c => PyData.strOk ⟨#[c]⟩) = true := by decide +kernel
theorem ltr1_ok {z : Str} (h : ltr1 z) : PyData.strOk z = true := by
  obtain ⟨c, hc, rfl⟩ := h
  exact List.all_eq_true.mp strOk_all c hc
theorem want_ok {x y : Str} (hx : ltr1 x) (hy : ltr1 y) : (Builtin.Str.occurrences (wantOf x y) (Str.ofString "...") 0 (wantOf x y).length 1).isEmpty = false ∧ Txt.split (wantOf x y) (Str.ofString "...") = [Str.ofString "", x, y, x, y, Str.ofString ""] ∧ (wantOf x y).length ≤ 100 := by
  obtain ⟨c, hc, rfl⟩ := hx
  obtain ⟨d, hd, rfl⟩ := hy
  have := List.all_eq_true.mp (List.all_eq_true.mp want_all c hc) d hd
  simp only [Bool.and_eq_true, Bool.not_eq_true', decide_eq_true_eq] at this
  exact this
theorem strsAt {vs : List Value} {ss : List Str} (h : StrsAre vs ss) {i : Nat} {v : Value} (e : vs[i]? = some v) : ∃ x t, v = .str x t ∧ ss[i]? = some x := by
  induction h generalizing i with
  | nil => simp at e
  | cons y t _ ih =>
    cases i with
    | zero =>
      simp at e
      exact ⟨y, t, e.symm, rfl⟩
    | succ i => exact ih (by simpa using e)
theorem strsDat {news : List (Addr × Obj)} {vs : List Value} {ss : List Str} (h : StrsAre vs ss) : DatAll news vs (ss.map Dat.str) := by
  induction h with
  | nil => exact .nil
  | cons x t _ ih => exact .cons (.str x t) ih
def crTo (g : Str) (ks zs : List Str) (i j : Nat) : Bool := ((ks.take i).any fun x => zs.any fun y => (x != y) && cross g x y) || (ks[i]?.toList.any fun x => (zs.take j).any fun y => (x != y) && cross g x y)
theorem crTo_0 (g : Str) (ks zs : List Str) : crTo g ks zs 0 0 = false := by
  unfold crTo
  cases ks <;> simp
theorem crTo_step {g : Str} {ks zs : List Str} {i j : Nat} {x y : Str} (hx : ks[i]? = some x) (hy : zs[j]? = some y) : crTo g ks zs i (j + 1) = (crTo g ks zs i j || ((x != y) && cross g x y)) := by
  unfold crTo
  rw [hx, List.take_add_one, hy]
  simp [Bool.or_assoc]
theorem crTo_roll {g : Str} {ks zs : List Str} {i : Nat} (h : i < ks.length) : crTo g ks zs i zs.length = crTo g ks zs (i + 1) 0 := by
  unfold crTo
  rw [List.take_length, List.take_zero, List.take_add_one, List.getElem?_eq_getElem h, List.any_append]
  cases ks[i + 1]? <;> simp
theorem crTo_end (g : Str) (ks zs : List Str) : crTo g ks zs ks.length 0 = crAll g ks zs := by
  unfold crTo crAll
  rw [List.take_length, List.take_zero]
  cases ks[ks.length]? <;> simp
/-- the pairs so far -/
def CrJ (g : Str) (ks zs : List Str) (i j : Nat) (ys : List Value) : Prop := (∃ kys, StrsAre ys kys ∧ ∀ z ∈ kys, ltr1 z) ∧ ys.length ≤ 20 * i + j ∧ (ys = [] ↔ crTo g ks zs i j = false)
local macro_rules | `(tactic| walk_at "storeName") => `(tactic| (k_here; k_dflt (refine' storeX_C ?F ?N ?c ?U ?d ?_ ?a ?b; (case a => rfl); (case b => rfl); (case F => k_asm); (case N => k_asm); (case c => rfl); (case U => first | assumption | apply_assumption); (case d => k_asm); k_whole); intro h' o' F' N' d'; (try dsimp only at N')))
local macro_rules | `(tactic| walk_at "eval ListComp") => `(tactic| (k_here; refine Hold.out ?_))
local macro_rules | `(tactic| walk_at "binaryOp Mod str ref") => `(tactic| (k_here; (with_reducible show wpAny _ _ (binaryOp Operator.Mod (Value.str _ _) (Value.ref _)) _ _ _); k_dflt (refine' KPt.mod_tuple (X' := ⟨#[46, 46, 46, 37, 115, 46, 46, 46, 37, 115, 46, 46, 46, 37, 115, 46, 46, 46, 37, 115, 46, 46, 46]⟩) ?kptN ?kptb ?kptF ?kptm ?_; (case kptN => k_asm); (case kptb => k_mem); (case kptF => decide +kernel); (case kptm => exact form_meets _ _ (by assumption) (by assumption) _ _ _ _)); intro _ _))
local macro_rules | `(tactic| walk_at "call ref") => `(tactic| (k_here; (with_reducible show wpAny _ _ (call (Value.ref 45) _ _) _ _ _); k_dflt (refine' em5 _ _ _ _ _ _ ?h1 ?h2 ?h3 ?h4 ?h5 ?h6 _ _ _ _ _ _ _ _ _ _ _ _ _ _ _ _ _ ?B ?F ?X ?T ?kK ?kd ?ku trivial ?_; (case h2 => (refine (want_ok ?_ ?_).2.1 <;> assumption)); (case h1 => (refine (want_ok ?_ ?_).1 <;> assumption)); (case h3 => (refine (want_ok ?_ ?_).2.2 <;> assumption)); (case h4 => assumption); (case h5 => assumption); (case h6 => assumption); (case B => k_asm); (case F => k_asm); (case X => k_asm); (case T => k_asm); (case kK => first | exact rfl | assumption); (case kd => ktr_room); (case ku => ktr_units); k_whole); (with_reducible rename News _ _ _ _ => N9'); intro t9 h9 tk9 F9 k9; (replace N9' := news_kept N9' k9); clear k9; (try dsimp only); (try k_fold)))
theorem crossed {w : World} {p : Program} {loose : List Str} {mean : ExcName → Option Value} {mg mb : Str → Option Value} (dp un : Nat) (gd : Option (List Code)) (cn : Str) (cs : Scope) (a : Addr) (ccd : Value) (cl : List (Str × Addr)) (outer : List Env) (A₀ : Around) (base h₀ : Heap) (L : Addr) (m : Str → Option Value) (s : Shared) (Q E : Value → Shared → Prop)
    (g : Str) (t : Tok) (a1 a2 : Addr) (vs ws : List Value) (n1 n2 : Nat) (ks zs : List Str) (news : List (Addr × Obj))
    (B : Below A₀ base outer h₀) (F : Fr h₀ L s.heap m) (X : (hd1.heap_39 w.params).In h₀) (T : Top p loose mean mg mb h₀) (hk : cs.kind = .function) (hd : dp + 20 < recursionLimit) (hu : un + 200 < cLine)
    (N : News h₀ L s.heap news) (m1 : (a1, listOf vs.toArray n1) ∈ news) (m2 : (a2, listOf ws.toArray n2) ∈ news) (S1 : StrsAre vs ks) (S2 : StrsAre ws zs) (q1 : ∀ z ∈ ks, ltr1 z) (q2 : ∀ z ∈ zs, ltr1 z) (b1 : ks.length ≤ 20) (b2 : zs.length ≤ 20) (hg : g.length ≤ 1000)
    (hret : ∀ h' tk', Fr h₀ L h' m → (∀ b o, s.heap.get? b = some o → h'.get? b = some o) → Q (.bool (crAll g ks zs)) { s with heap := h', toks := tk' }) :
    wpAny (model PySem.Challenge.rw_pg0249_01.row.prog w) (ktrTop dp un gd cn cs L a ccd cl outer) (call (.ref 210) [.str g t, .ref a1, .ref a2]) Q E s := by
  revert X; k_fill; intro X
  refine wpAny_call ?_
  k_dflt (refine' code_subC (binds := [(Str.ofString "word", .str g t), (Str.ofString "ones", .ref a1), (Str.ofString "others", .ref a2)]) ?k1 ?k2 ?k3 N ?k5 ?kA ?kF ?kK ?k6 ?k7 ?k8 ?k9 ?kB ?kD ?_ ?c2 ?c3 ?c4; walk_at "ent")
  intro g' L' h' tk' cells' hk0 l2 FG' F' N' Y' B' X' T'
  (try k_lt l2)
  have Nsub := N
  k_cells Y'
  (try simp only [List.cons_append, List.nil_append] at N')
  (try dsimp only)
  with_reducible show wpAny _ _ _ _ _ _
  k_fold
  (with_reducible rename Obj.data _ = Data.cell (bindC _ _ _ (PySem.Str.ofString "form")) => dF)
  have hU := updCell (pre := []) N' dF (fun p hp => nomatch hp) (fun p hp => by
    rcases List.mem_cons.mp hp with rfl | hp
    · exact .inl (addNe L' (a := 2) (b := 3) (by decide))
    rcases List.mem_cons.mp hp with rfl | hp
    · exact .inl (addNe L' (a := 1) (b := 3) (by decide))
    · exact .inl (ltAdd (l2 p hp) 3))
  simp only [List.nil_append] at hU
  k_steps
  refine Hold.mk ?_
  refine ListComp_N (F₀ := by k_asm) (by with_unfolding_all rfl) (by decide) (by rfl) (by decide) (by rfl) (by rfl) (by decide) ?_
  k_steps
  (with_reducible rename Fr _ _ _ _ => F1)
  (with_reducible rename News _ _ _ (_ :: _) => N1)
  refine fun G k => k a1 a2 vs ws n1 n2 _ (CrJ g ks zs) rfl rfl F1 N1 (.tail _ (.tail _ (.tail _ m1))) (.tail _ (.tail _ (.tail _ m2))) ⟨⟨_, .nil, fun _ h => nomatch h⟩, Nat.zero_le _, by rw [crTo_0]; simp⟩ ?_ ?_ ?_ ?_ ?_
  · intro i j ys hi hj j'
    have := j'.2.1
    rw [S1.length] at hi
    rw [S2.length] at hj
    omega
  · intro i ys v₁ hv j' I oI C oC D m₂ h tk E' hoC hx F N
    (try dsimp only)
    k_steps
    exact TurnEnd.intro (by k_asm) (by k_asm) (fun _ hp => hp) trivial
  · intro i j ys v₁ v₂ hv1 hv2 j' I2 oI2 I oI C oC D m₂ h tk E' hoC hx hy F N
    obtain ⟨x, tx, rfl, hkx⟩ := strsAt S1 hv1
    obtain ⟨y, ty, rfl, hky⟩ := strsAt S2 hv2
    have hx1 := q1 _ (List.mem_of_getElem? hkx)
    have hy1 := q2 _ (List.mem_of_getElem? hky)
    have hx0 := ltr1_len hx1
    have hy0 := ltr1_len hy1
    (try dsimp only)
    k_steps
    all_goals obtain ⟨⟨kys, jj1, jj2⟩, jj3, jj4⟩ := j'
    · (with_reducible rename (x != y) = true => ha)
      (with_reducible rename cross g x y = true => hb)
      (with_reducible rename Fr _ _ _ _ => F9)
      (with_reducible rename News _ _ _ _ => N9)
      refine TurnEnd.intro F9 N9 (fun _ hp => .tail _ hp) ⟨⟨kys ++ [x], strs_snoc jj1 x tx, fun z hz => ?_⟩, by rw [List.length_append, List.length_singleton]; omega, ?_⟩
      · rcases List.mem_append.mp hz with hz | hz
        · exact jj2 z hz
        · rw [List.mem_singleton.mp hz]
          exact hx1
      · rw [crTo_step hkx hky, ha, hb]
        simp
    · (with_reducible rename (x != y) = true => ha)
      (with_reducible rename cross g x y = false => hb)
      (with_reducible rename Fr _ _ _ _ => F9)
      (with_reducible rename News _ _ _ _ => N9)
      refine TurnEnd.intro F9 N9 (fun _ hp => .tail _ hp) ⟨⟨kys, jj1, jj2⟩, by omega, ?_⟩
      rw [crTo_step hkx hky, ha, hb, jj4]
      simp
    · (with_reducible rename (x != y) = false => ha)
      (with_reducible rename Fr _ _ _ _ => F9)
      (with_reducible rename News _ _ _ _ => N9)
      refine TurnEnd.intro F9 N9 (fun _ hp => hp) ⟨⟨kys, jj1, jj2⟩, by omega, ?_⟩
      rw [crTo_step hkx hky, ha, jj4]
      simp
  · intro i ys hi j'
    rw [S1.length] at hi
    obtain ⟨j1, j2, j3⟩ := j'
    rw [S2.length, crTo_roll hi] at j3
    rw [S2.length] at j2
    exact ⟨j1, by omega, j3⟩
  · intro D ys h tk j' F N off
    rw [S1.length] at j'
    obtain ⟨⟨kys, j1, j4⟩, j2, j3⟩ := j'
    rw [crTo_end] at j3
    (try dsimp only)
    k_steps
    (with_reducible rename Fr _ _ _ _ => F9)
    (with_reducible rename News _ _ _ _ => N9)
    refine kqd_ne (n₁ := []) (n₂ := []) N9 (.tail _ (.head _)) rfl rfl (strsDat j1) (fun _ h => nomatch h) (.head _) rfl rfl .nil (fun _ h => nomatch h) (fun d hd => ?_) (fun _ h => nomatch h) (by ke_room) ?_
    · obtain ⟨z, hz, rfl⟩ := List.mem_map.mp hd
      exact ltr1_ok (j4 z hz)
    · have e : (!decide (List.map Dat.str kys = [])) = crAll g ks zs := by
        cases hc : crAll g ks zs with
        | true =>
          rw [hc] at j3
          have : ys ≠ [] := fun q => by have := j3.mp q; cases this
          have : kys ≠ [] := fun q => this (by subst q; cases j1; rfl)
          simp [this]
        | false =>
          have := j3.mpr hc
          subst this
          cases j1
          simp
      rw [e]
      k_steps
      (with_reducible rename Fr h₀ L _ m => kF)
      (with_reducible rename Fr g' _ _ _ => gF)
      (with_reducible rename News h₀ L _ (_ :: _) => kN)
      exact hret _ _ kF fun b o e => keep_sub Nsub kN (fun p hp _ => .tail _ (.tail _ (.tail _ (.tail _ (.tail _ hp))))) (fun nb e => gF.keep b o (hk0 b o e nb)) e
end Mine
end
theorem Mine.slate18 : True := by first | walk1 | trivial
section
open PySem PySem.W PyProof.Rows
set_option Elab.async false
set_option maxRecDepth 100000
set_option maxHeartbeats 8000000
set_option pp.deepTerms true
set_option pp.proofs false
namespace Mine
local macro_rules | `(tactic| walk_at "call builtin:len") => `(tactic| (k_here; refine Hold.out ?_))
local macro_rules | `(tactic| walk_at "call ref") => `(tactic| (k_here; (with_reducible show wpAny _ _ (call (Value.ref 210) _ _) _ _ _); refine Hold.out ?_))
theorem st6 {w : World} {p : Program} {loose : List Str} {mean : ExcName → Option Value} {mg mb : Str → Option Value} (fa : Addr) (cdv : Value) (base h₀ : Heap) (L : Addr) (m : Str → Option Value) (s : Shared) (Q : Flow → Shared → Prop) (E : Value → Shared → Prop)
    (x : Str) (t : Tok) (l : Addr) (vs : List Value) (n : Nat) (ks : List Str) (news : List (Addr × Obj))
    (B : Below callerA base [] h₀) (F : Fr h₀ L s.heap m) (X : (hd1.heap_39 w.params).In h₀) (T : Top p loose mean mg mb h₀)
    (N : News h₀ L s.heap news) (ml : (l, listOf vs.toArray n) ∈ news) (hs : StrsAre vs ks) (hl : ∀ z ∈ ks, ltr1 z) (hk : ks.length ≤ 20) (hx : x.length ≤ 1000)
    (m1 : m (Str.ofString "word") = some (.str x t)) (m2 : m (Str.ofString "ones") = some (.ref l))
    (hret : ∀ h tk, Fr h₀ L h (fun y => if y = Str.ofString "crossed" then some (.bool (crAll x ks ks)) else m y) → News h₀ L h news → Q .next { s with heap := h, toks := tk }) :
    wpAny (model PySem.Challenge.rw_pg0249_01.row.prog w) (lawA L fa cdv) (exec (nthS lawBody 6) (lawE L fa cdv)) Q E s := by
  revert X; k_fill; intro X
  have eS : lawScope = lawScope := rfl
  have eB : nthS lawBody 6 = nthS lawBody 6 := rfl
  (conv at eS => rhs; whnf)
  (conv at eB => rhs; whnf)
  unfold lawA lawE
  rw [eS, eB]
  clear eS eB
  obtain ⟨m, rfl⟩ := see_eq m1
  replace m2 := see_in m2 (by decide)
  obtain ⟨m, rfl⟩ := see_eq m2
  clear m1 m2
  k_steps
  refine Hold.mk ?_
  (with_reducible rename Fr _ _ _ _ => F9)
  (with_reducible rename News _ _ _ _ => N9)
  refine crossed _ _ _ _ _ _ _ _ _ _ _ _ _ _ _ _ _ x _ l l vs vs n n ks ks news B F9 X T ?_ ?_ ?_ N9 ml ml hs hs hl hl hk hk hx ?_
  · first | exact rfl | assumption
  · ktr_room
  · ktr_units
  · intro h1 tk1 F1 k1
    have N1 := news_kept N9 k1
    clear N9 F9
    k_steps
    exact hret _ _ (by k_asm) (by k_asm)
theorem st7 {w : World} {p : Program} {loose : List Str} {mean : ExcName → Option Value} {mg mb : Str → Option Value} (fa : Addr) (cdv : Value) (base h₀ : Heap) (L : Addr) (m : Str → Option Value) (s : Shared) (Q : Flow → Shared → Prop) (E : Value → Shared → Prop)
    (l1 l2 : Addr) (vs ws : List Value) (n1 n2 : Nat) (c : Bool) (news : List (Addr × Obj))
    (B : Below callerA base [] h₀) (F : Fr h₀ L s.heap m) (X : (hd1.heap_39 w.params).In h₀) (T : Top p loose mean mg mb h₀)
    (N : News h₀ L s.heap news) (ml1 : (l1, listOf vs.toArray n1) ∈ news) (ml2 : (l2, listOf ws.toArray n2) ∈ news) (b1 : vs.length ≤ 20) (b2 : ws.length ≤ 20) (hc : (((vs.length : Int) + (ws.length : Int) == 6) == c) = false)
    (m1 : m (Str.ofString "ones") = some (.ref l1)) (m2 : m (Str.ofString "others") = some (.ref l2)) (m3 : m (Str.ofString "crossed") = some (.bool c))
    (hret : ∀ h tk, Fr h₀ L h m → News h₀ L h news → Q .next { s with heap := h, toks := tk }) :
    wpAny (model PySem.Challenge.rw_pg0249_01.row.prog w) (lawA L fa cdv) (exec (nthS lawBody 7) (lawE L fa cdv)) Q E s := by
  revert X; k_fill; intro X
  have eS : lawScope = lawScope := rfl
  have eB : nthS lawBody 7 = nthS lawBody 7 := rfl
  (conv at eS => rhs; whnf)
  (conv at eB => rhs; whnf)
  unfold lawA lawE
  rw [eS, eB]
  clear eS eB
  obtain ⟨m, rfl⟩ := see_eq m1
  replace m2 := see_in m2 (by decide)
  replace m3 := see_in m3 (by decide)
  obtain ⟨m, rfl⟩ := see_eq m2
  replace m3 := see_in m3 (by decide)
  obtain ⟨m, rfl⟩ := see_eq m3
  clear m1 m2 m3
  k_steps
  refine Hold.mk ?_
  refine len_list (items := vs.toArray) ⟨_, (N _ ml1).1, rfl, _, rfl⟩ (by rw [List.size_toArray]; omega) ?_
  rw [List.size_toArray]
  k_steps
  refine Hold.mk ?_
  refine len_list (items := ws.toArray) ⟨_, (N _ ml2).1, rfl, _, rfl⟩ (by rw [List.size_toArray]; omega) ?_
  rw [List.size_toArray]
  k_steps
  exact hret _ _ (by k_asm) (by k_asm)
theorem st8 {w : World} {p : Program} {loose : List Str} {mean : ExcName → Option Value} {mg mb : Str → Option Value} (fa : Addr) (cdv : Value) (base h₀ : Heap) (L : Addr) (m : Str → Option Value) (s : Shared) (Q : Flow → Shared → Prop) (E : Value → Shared → Prop)
    (c : Bool) (news : List (Addr × Obj))
    (B : Below callerA base [] h₀) (F : Fr h₀ L s.heap m) (X : (hd1.heap_39 w.params).In h₀) (T : Top p loose mean mg mb h₀)
    (N : News h₀ L s.heap news)
    (m3 : m (Str.ofString "crossed") = some (.bool c))
    (hret : if c = true then Q (.ret (.bool true)) s else Q .next s) :
    wpAny (model PySem.Challenge.rw_pg0249_01.row.prog w) (lawA L fa cdv) (exec (nthS lawBody 8) (lawE L fa cdv)) Q E s := by
  revert X; k_fill; intro X
  have eS : lawScope = lawScope := rfl
  have eB : nthS lawBody 8 = nthS lawBody 8 := rfl
  (conv at eS => rhs; whnf)
  (conv at eB => rhs; whnf)
  unfold lawA lawE
  rw [eS, eB]
  clear eS eB
  obtain ⟨m, rfl⟩ := see_eq m3
  clear m3
  cases c
  · k_steps
    all_goals exact hret
  · k_steps
    all_goals exact hret
end Mine
end
theorem Mine.slate19 : True := by first | walk1 | trivial
section
open PySem PySem.W PyProof.Rows
set_option Elab.async false
set_option maxRecDepth 100000
set_option maxHeartbeats 8000000
set_option pp.deepTerms true
set_option pp.proofs false
namespace Mine
local macro_rules | `(tactic| walk_at "eval ListComp") => `(tactic| (k_here; k_dflt (refine ListComp_W (F₀ := by k_asm) (by with_unfolding_all rfl) (by decide) (by rfl) (by decide) (by rfl) (by rfl) (by decide) ?_)))
local macro_rules | `(tactic| walk_at "call type:zip") => `(tactic| (k_here; refine Hold.out ?_))
local macro_rules | `(tactic| walk_at "call builtin:str.join") => `(tactic| (k_here; refine Hold.out ?_))
/-- the letters of two words, one behind the other -/
def inter : List Nat → List Nat → List Nat
  | a :: l, b :: r => a :: b :: inter l r
  | _, _ => []
def pairsS (a b : List Nat) : List Str := (a.zip b).map fun p => ⟨#[p.1, p.2]⟩
theorem join_pairs {a b : List Nat} (ha : a.length = 5) (hb : b.length = 5) : Txt.join (Str.ofString "") (pairsS a b) = strOf (inter a b) ∧ ((pairsS a b).map (·.length)).sum + (pairsS a b).length * (Str.ofString "").length ≤ 16777216 := by
  match a, b, ha, hb with
  | [a1, a2, a3, a4, a5], [b1, b2, b3, b4, b5], _, _ => exact ⟨rfl, Nat.le_of_ble_eq_true rfl⟩
theorem st9 {w : World} {p : Program} {loose : List Str} {mean : ExcName → Option Value} {mg mb : Str → Option Value} (fa : Addr) (cdv : Value) (base h₀ : Heap) (L : Addr) (m : Str → Option Value) (s : Shared) (Q : Flow → Shared → Prop) (E : Value → Shared → Prop)
    (x z : Str) (t u : Tok) (news : List (Addr × Obj))
    (B : Below callerA base [] h₀) (F : Fr h₀ L s.heap m) (X : (hd1.heap_39 w.params).In h₀) (T : Top p loose mean mg mb h₀)
    (N : News h₀ L s.heap news) (hx : x.length = 5) (hz : z.length = 5) (ha : x.cps.all (· < 128) = true) (hb : z.cps.all (· < 128) = true)
    (m1 : m (Str.ofString "word") = some (.str x t)) (m2 : m (Str.ofString "second") = some (.str z u))
    (hret : ∀ h tk t, Fr h₀ L h (fun y => if y = Str.ofString "both" then some (.str (strOf (inter x.cps.toList z.cps.toList)) t) else m y) → News h₀ L h news → Q .next { s with heap := h, toks := tk }) :
    wpAny (model PySem.Challenge.rw_pg0249_01.row.prog w) (lawA L fa cdv) (exec (nthS lawBody 9) (lawE L fa cdv)) Q E s := by
  revert X; k_fill; intro X
  have eS : lawScope = lawScope := rfl
  have eB : nthS lawBody 9 = nthS lawBody 9 := rfl
  (conv at eS => rhs; whnf)
  (conv at eB => rhs; whnf)
  unfold lawA lawE
  rw [eS, eB]
  clear eS eB
  obtain ⟨m, rfl⟩ := see_eq m1
  replace m2 := see_in m2 (by decide)
  obtain ⟨m, rfl⟩ := see_eq m2
  clear m1 m2
  have hxl : x.cps.toList.length = 5 := by simpa [Str.length] using hx
  have hzl : z.cps.toList.length = 5 := by simpa [Str.length] using hz
  k_steps
  refine Hold.mk ?_
  refine SrcW.callSS (n := 5) (J := fun i ys => StrsAre ys ((pairsS x.cps.toList z.cps.toList).take i)) (by rfl) (by k_asm) (by k_asm) ha hb (by rw [sizeLine_eq]; omega) (by rw [show x.cps.size = 5 from hx, show z.cps.size = 5 from hz]; rfl) .nil ?_ ?_
  · intro z' TI TO i1 i2 i ys' c d u₁ u₂ g e1 e2 j hyl oz oTI oTO o1 o2 C oC D m₂ h tk E' hC hx1 hx2 F N
    refine wpAny_tests_nil ?_
    rw [if_pos rfl]
    k_steps
    refine TurnEnd.intro (by k_asm) N (fun _ hp => hp) ?_
    rw [take_snoc (a := (⟨#[c, d]⟩ : Str)) (by
      unfold pairsS
      have hzip : (x.cps.toList.zip z.cps.toList)[i]? = some (c, d) := List.getElem?_zip_eq_some.mpr ⟨by simpa using e1, by simpa using e2⟩
      rw [List.getElem?_map, hzip]
      rfl)]
    exact strs_snoc j _ _
  · intro D ys' h tk j F9 N9 off
    k_steps
    refine Hold.mk ?_
    rw [List.take_of_length_le (by unfold pairsS; rw [List.length_map, List.length_zip, hxl, hzl]; exact Nat.le_refl _)] at j
    refine join_list ⟨_, (N9 _ (.head _)).1, rfl, _, rfl⟩ j (join_pairs hxl hzl).2 ?_
    intro t8 k8
    rw [(join_pairs hxl hzl).1]
    k_steps
    (with_reducible rename Fr _ _ _ _ => F8)
    (with_reducible rename News _ _ _ _ => N8)
    exact hret _ _ _ F8 (fun p hp => N8 p (.tail _ hp))
end Mine
end
theorem Mine.slate20 : True := by first | walk1 | trivial
section
open PySem PySem.W PyProof.Rows
set_option Elab.async false
set_option maxRecDepth 100000
set_option maxHeartbeats 8000000
set_option pp.deepTerms true
set_option pp.proofs false
namespace Mine
local macro_rules | `(tactic| walk_at "call ref") => `(tactic| (k_here; (with_reducible show wpAny _ _ (call (Value.ref 210) _ _) _ _ _); refine Hold.out ?_))
theorem strs_app {vs ws : List Value} {ks zs : List Str} (h : StrsAre vs ks) (h' : StrsAre ws zs) : StrsAre (vs ++ ws) (ks ++ zs) := by
  induction h with
  | nil => exact h'
  | cons y t _ ih => exact .cons y t ih
theorem st10 {w : World} {p : Program} {loose : List Str} {mean : ExcName → Option Value} {mg mb : Str → Option Value} (fa : Addr) (cdv : Value) (base h₀ : Heap) (L : Addr) (m : Str → Option Value) (s : Shared) (Q : Flow → Shared → Prop) (E : Value → Shared → Prop)
    (g : Str) (t : Tok) (l1 l2 : Addr) (vs ws : List Value) (n1 n2 : Nat) (ks zs : List Str) (more : List (Addr × Obj))
    (B : Below callerA base [] h₀) (F : Fr h₀ L s.heap m) (X : (hd1.heap_39 w.params).In h₀) (T : Top p loose mean mg mb h₀)
    (N : News h₀ L s.heap ((l1, listOf vs.toArray n1) :: (l2, listOf ws.toArray n2) :: more)) (hs : StrsAre vs ks) (hzs : StrsAre ws zs) (hl1 : ∀ z ∈ ks, ltr1 z) (hl2 : ∀ z ∈ zs, ltr1 z) (hk1 : ks.length ≤ 10) (hk2 : zs.length ≤ 10) (hx : g.length ≤ 1000) (hc : crAll g (ks ++ zs) (ks ++ zs) = false)
    (m1 : m (Str.ofString "both") = some (.str g t)) (m2 : m (Str.ofString "ones") = some (.ref l1)) (m3 : m (Str.ofString "others") = some (.ref l2))
    (hret : ∀ h tk, Fr h₀ L h m → News h₀ L h ((l1, listOf vs.toArray n1) :: (l2, listOf ws.toArray n2) :: more) → Q .next { s with heap := h, toks := tk }) :
    wpAny (model PySem.Challenge.rw_pg0249_01.row.prog w) (lawA L fa cdv) (exec (nthS lawBody 10) (lawE L fa cdv)) Q E s := by
  revert X; k_fill; intro X
  have eS : lawScope = lawScope := rfl
  have eB : nthS lawBody 10 = nthS lawBody 10 := rfl
  (conv at eS => rhs; whnf)
  (conv at eB => rhs; whnf)
  unfold lawA lawE
  rw [eS, eB]
  clear eS eB
  obtain ⟨m, rfl⟩ := see_eq m1
  replace m2 := see_in m2 (by decide)
  replace m3 := see_in m3 (by decide)
  obtain ⟨m, rfl⟩ := see_eq m2
  replace m3 := see_in m3 (by decide)
  obtain ⟨m, rfl⟩ := see_eq m3
  clear m1 m2 m3
  have hvl := hs.length
  have hwl := hzs.length
  k_steps
  refine Hold.mk ?_
  (with_reducible rename StrsAre ws zs => hzs)
  (with_reducible rename StrsAre vs ks => hs)
  (with_reducible rename Fr _ _ _ _ => F9)
  (with_reducible rename News _ _ _ _ => N9)
  refine crossed _ _ _ _ _ _ _ _ _ _ _ _ _ _ _ _ _ g _ _ _ (vs ++ ws) (vs ++ ws) 0 0 (ks ++ zs) (ks ++ zs) _ B F9 X T ?_ ?_ ?_ N9 (.tail _ (.head _)) (.head _) (strs_app hs hzs) (strs_app hs hzs) ?_ ?_ ?_ ?_ hx ?_
  · first | exact rfl | assumption
  · ktr_room
  · ktr_units
  · exact fun z hz => (List.mem_append.mp hz).elim (hl1 z) (hl2 z)
  · exact fun z hz => (List.mem_append.mp hz).elim (hl1 z) (hl2 z)
  · rw [List.length_append]; omega
  · rw [List.length_append]; omega
  · intro h1 tk1 F1 k1
    have N1 := news_kept N9 k1
    clear N9 F9
    rw [hc]
    k_steps
    exact hret _ _ (by k_asm) (fun p hp => N1 p (.tail _ (.tail _ hp)))
end Mine
end
theorem Mine.slate21 : True := by first | walk1 | trivial
section
open PySem PySem.W PyProof.Rows
set_option Elab.async false
set_option maxRecDepth 100000
set_option maxHeartbeats 8000000
set_option pp.deepTerms true
set_option pp.proofs false
namespace Mine
local macro_rules | `(tactic| walk_at "exec For Tuple Call cons nil") => `(tactic| (k_here; refine Hold.out ?_))
local macro_rules | `(tactic| walk_at "exec For Name Subscript cons nil") => `(tactic| (k_here; refine Hold.out ?_))
local macro_rules | `(tactic| walk_at "exec For") => `(tactic| (k_here; refine Hold.out ?_))
local macro_rules | `(tactic| walk_at "call type:enumerate") => `(tactic| (k_here; refine Hold.out ?_))
local macro_rules | `(tactic| walk_at "pyIter ref") => `(tactic| (k_here; refine Hold.out ?_))
local macro_rules | `(tactic| walk_at "call ref") => `(tactic| (k_here; (with_reducible first | show wpAny _ _ (call (Value.ref 210) _ _) _ _ _ | show wpAny _ _ (call (Value.ref 52) _ _) _ _ _); refine Hold.out ?_))
local macro_rules | `(tactic| walk_at "subscriptTail Name Slice ref ref") => `(tactic| (k_here; refine Hold.out ?_))
local macro_rules | `(tactic| walk_at "UnrEndW") => `(tactic| (refine Hold.out ?_))
/-- the names that the loop leaves alone -/
def Six (m : Str → Option Value) (g z x : Str) (t u v : Tok) (lX lO lG : Addr) : Prop := m (Str.ofString "both") = some (.str g t) ∧ m (Str.ofString "others") = some (.ref lX) ∧ m (Str.ofString "ones") = some (.ref lO) ∧ m (Str.ofString "second") = some (.str z u) ∧ m (Str.ofString "great") = some (.ref lG) ∧ m (Str.ofString "word") = some (.str x v)
theorem Six.see {m : Str → Option Value} {g z x : Str} {t u v : Tok} {lX lO lG : Addr} (h : Six m g z x t u v lX lO lG) : ∃ m' : Str → Option Value, m = fun y => if y = Str.ofString "both" then some (.str g t) else if y = Str.ofString "others" then some (.ref lX) else if y = Str.ofString "ones" then some (.ref lO) else if y = Str.ofString "second" then some (.str z u) else if y = Str.ofString "great" then some (.ref lG) else if y = Str.ofString "word" then some (.str x v) else m' y := by
  obtain ⟨m1, m2, m3, m4, m5, m6⟩ := h
  obtain ⟨m, rfl⟩ := see_eq m1
  replace m2 := see_in m2 (by decide)
  replace m3 := see_in m3 (by decide)
  replace m4 := see_in m4 (by decide)
  replace m5 := see_in m5 (by decide)
  replace m6 := see_in m6 (by decide)
  obtain ⟨m, rfl⟩ := see_eq m2
  replace m3 := see_in m3 (by decide)
  replace m4 := see_in m4 (by decide)
  replace m5 := see_in m5 (by decide)
  replace m6 := see_in m6 (by decide)
  obtain ⟨m, rfl⟩ := see_eq m3
  replace m4 := see_in m4 (by decide)
  replace m5 := see_in m5 (by decide)
  replace m6 := see_in m6 (by decide)
  obtain ⟨m, rfl⟩ := see_eq m4
  replace m5 := see_in m5 (by decide)
  replace m6 := see_in m6 (by decide)
  obtain ⟨m, rfl⟩ := see_eq m5
  replace m6 := see_in m6 (by decide)
  obtain ⟨m, rfl⟩ := see_eq m6
  exact ⟨m, rfl⟩
theorem six_mk (m : Str → Option Value) (g z x : Str) (t u v : Tok) (lX lO lG : Addr) : Six (fun y => if y = Str.ofString "both" then some (.str g t) else if y = Str.ofString "others" then some (.ref lX) else if y = Str.ofString "ones" then some (.ref lO) else if y = Str.ofString "second" then some (.str z u) else if y = Str.ofString "great" then some (.ref lG) else if y = Str.ofString "word" then some (.str x v) else m y) g z x t u v lX lO lG :=
  ⟨if_pos rfl, (if_neg (by decide)).trans (if_pos rfl), (if_neg (by decide)).trans ((if_neg (by decide)).trans (if_pos rfl)), (if_neg (by decide)).trans ((if_neg (by decide)).trans ((if_neg (by decide)).trans (if_pos rfl))), (if_neg (by decide)).trans ((if_neg (by decide)).trans ((if_neg (by decide)).trans ((if_neg (by decide)).trans (if_pos rfl)))), (if_neg (by decide)).trans ((if_neg (by decide)).trans ((if_neg (by decide)).trans ((if_neg (by decide)).trans ((if_neg (by decide)).trans (if_pos rfl)))))⟩
def sixNames : List Str := [Str.ofString "both", Str.ofString "others", Str.ofString "ones", Str.ofString "second", Str.ofString "great", Str.ofString "word"]
theorem Six.put {m : Str → Option Value} {g z x : Str} {t u v : Tok} {lX lO lG : Addr} (h : Six m g z x t u v lX lO lG) (nm : Str) (w : Option Value) (hn : (sixNames.all fun y => y != nm) = true) : Six (fun y => if y = nm then w else m y) g z x t u v lX lO lG := by
  have k : ∀ y ∈ sixNames, y ≠ nm := fun y hy => by simpa using List.all_eq_true.mp hn y hy
  obtain ⟨m1, m2, m3, m4, m5, m6⟩ := h
  refine ⟨(if_neg (k _ ?_)).trans m1, (if_neg (k _ ?_)).trans m2, (if_neg (k _ ?_)).trans m3, (if_neg (k _ ?_)).trans m4, (if_neg (k _ ?_)).trans m5, (if_neg (k _ ?_)).trans m6⟩ <;> simp [sixNames]
theorem Six.drop {m : Str → Option Value} {g z x : Str} {t u v : Tok} {lX lO lG : Addr} {nm : Str} {w : Option Value} (h : Six (fun y => if y = nm then w else m y) g z x t u v lX lO lG) (hn : (sixNames.all fun y => y != nm) = true) : Six m g z x t u v lX lO lG := by
  have k : ∀ y ∈ sixNames, y ≠ nm := fun y hy => by simpa using List.all_eq_true.mp hn y hy
  obtain ⟨m1, m2, m3, m4, m5, m6⟩ := h
  refine ⟨(if_neg (k _ ?_)).symm.trans m1, (if_neg (k _ ?_)).symm.trans m2, (if_neg (k _ ?_)).symm.trans m3, (if_neg (k _ ?_)).symm.trans m4, (if_neg (k _ ?_)).symm.trans m5, (if_neg (k _ ?_)).symm.trans m6⟩ <;> simp [sixNames]
theorem pick_from (ws : List Value) (i : Nat) : (slicePick ws.toArray (some ((i : Int) + 1)) none none).toList = ws.drop (i + 1) := by
  have := slicePick_from' ws.toArray (i + 1)
  rw [show (((i + 1 : Nat) : Int)) = (i : Int) + 1 from rfl] at this
  rw [this]
theorem st11 {w : World} {p : Program} {loose : List Str} {mean : ExcName → Option Value} {mg mb : Str → Option Value} (fa : Addr) (cdv : Value) (base h₀ : Heap) (L : Addr) (m : Str → Option Value) (s : Shared) (Q : Flow → Shared → Prop) (E : Value → Shared → Prop)
    (g z x : Str) (t u v : Tok) (lX lO lG : Addr) (vs ws : List Value) (n1 n2 : Nat) (ks zs : List Str) (oG : Obj)
    (B : Below callerA base [] h₀) (F : Fr h₀ L s.heap m) (X : (hd1.heap_39 w.params).In h₀) (T : Top p loose mean mg mb h₀)
    (N : News h₀ L s.heap [(lX, listOf ws.toArray n2), (lO, listOf vs.toArray n1), (lG, oG)]) (hks : StrsAre vs ks) (hzs : StrsAre ws zs) (hl1 : ∀ z ∈ ks, ltr1 z) (hl2 : ∀ z ∈ zs, ltr1 z) (hk1 : ks.length ≤ 10) (hk2 : zs.length ≤ 10) (hx : g.length ≤ 1000)
    (hc : ∀ (i j : Nat) (a b : Str), i < j → zs[i]? = some a → zs[j]? = some b → crAll (rep g b a) [a] ks = true ∨ crAll (rep g b a) ks [a] = true)
    (h6 : Six m g z x t u v lX lO lG)
    (hE : PassesOwn (model PySem.Challenge.rw_pg0249_01.row.prog w) (lawA L fa cdv) (lawE L fa cdv) E)
    (hret : ∀ h tk m', Fr h₀ L h m' → News h₀ L h [(lX, listOf ws.toArray n2), (lO, listOf vs.toArray n1), (lG, oG)] → Six m' g z x t u v lX lO lG → Q .next { s with heap := h, toks := tk }) :
    wpAny (model PySem.Challenge.rw_pg0249_01.row.prog w) (lawA L fa cdv) (exec (nthS lawBody 11) (lawE L fa cdv)) Q E s := by
  revert X; k_fill; intro X
  have eS : lawScope = lawScope := rfl
  have eB : nthS lawBody 11 = nthS lawBody 11 := rfl
  (conv at eS => rhs; whnf)
  (conv at eB => rhs; whnf)
  unfold lawA lawE at hE ⊢
  rw [eS] at hE ⊢
  rw [eB]
  clear eS eB
  obtain ⟨m, rfl⟩ := h6.see
  clear h6
  have hvl := hks.length
  have hwl := hzs.length
  (with_unfolding_all refine' For_turns F ?_ ?_ ?_; k_whole)
  k_steps
  refine Hold.mk ?_
  (with_reducible rename StrsAre ws zs => hzs)
  (with_reducible rename StrsAre vs ks => hks)
  (with_reducible rename Fr _ _ _ _ => F3)
  (with_reducible rename News _ _ _ _ => N3)
  (with_unfolding_all refine ktu_enum (lo := listOf ws.toArray n2) (vs := ws) (by rfl) F3 N3 (.head _) (by rfl) (by rfl) rfl ?_)
  intro I hI
  refine enumRest_ind (J := fun i m' news => news = [(lX, listOf ws.toArray n2), (lO, listOf vs.toArray n1), (lG, oG)] ∧ Six m' g z x t u v lX lO lG) ?_ ?_ ws.length 0 _ _ rfl ⟨rfl, six_mk _ _ _ _ _ _ _ _ _ _⟩
  · intro i v0 m1 news1 ev jj TT t2 h8 tk8 hT F8
    obtain ⟨rfl, j6⟩ := jj
    obtain ⟨m1, rfl⟩ := j6.see
    clear j6 F3 N3
    refine AllObj.cons fun oE cE => ?_
    refine AllObj.cons fun oL cL => ?_
    refine AllObj.nil ?_
    intro N8
    obtain ⟨a, ta, rfl, ha⟩ := strsAt hzs ev
    have hiw : i < ws.length := (List.getElem?_eq_some_iff.mp ev).1
    (try simp only [List.cons_append, List.nil_append] at N8)
    k_steps
    refine Hold.mk ?_
    (with_reducible rename Fr _ _ _ _ => F3)
    (with_unfolding_all refine' For_turns F3 ?_ ?_ ?_; k_whole)
    k_steps
    refine Hold.mk ?_
    (with_reducible rename News _ _ _ _ => N9)
    k_dflt (refine kmk_slice_lit (zs := ws.drop (i + 1)) F3 N9 ⟨_, (N9 _ (.tail _ (.tail _ (.head _)))).1, rfl, n2, rfl⟩ (.int _ _) .none (pick_from ws i) ?_ (by with_unfolding_all rfl) (by intro _; with_unfolding_all rfl) (by rw [sizeLine_eq, List.size_toArray]; omega))
    intro D2 h2 F2 N2 hD2
    k_steps
    refine Hold.mk ?_
    (with_reducible rename Fr _ _ _ _ => F3)
    (with_reducible rename News _ _ _ _ => N9)
    (with_unfolding_all refine iter_listTurns (lo := listOf (ws.drop (i + 1)).toArray 0) (vs := ws.drop (i + 1)) (by rfl) F3 N9 (.head _) (by rfl) (by rfl) ?_)
    intro I2 hI2
    refine valRest_ind (J := fun j m' news => news = [(D2, listOf (ws.drop (i + 1)).toArray 0), (I + 1, oE), (I, oL), (lX, listOf ws.toArray n2), (lO, listOf vs.toArray n1), (lG, oG)] ∧ Six m' g z x t u v lX lO lG ∧ m' (Str.ofString "x") = some (.str a ta)) ?_ ?_ (ws.drop (i + 1)).length 0 _ _ rfl ⟨rfl, ?_, ?_⟩
    · intro j v1 m2 news2 ev2 jj h9 tk9 F9
      obtain ⟨rfl, j6, j7⟩ := jj
      obtain ⟨m2, rfl⟩ := see_eq j7
      obtain ⟨m2, rfl⟩ := (j6.drop (by decide +kernel)).see
      clear j7 j6 F3 N9
      intro oI cI N10
      obtain ⟨b, tb, rfl, hb⟩ := strsAt hzs (show ws[i + 1 + j]? = some v1 by rw [← ev2, List.getElem?_drop])
      have hab := hc i (i + 1 + j) a b (by omega) ha hb
      have la := hl2 a (List.mem_of_getElem? ha)
      have lb := hl2 b (List.mem_of_getElem? hb)
      have hjl : (rep g b a).length ≤ 1000 := by
        obtain ⟨c1, _, rfl⟩ := la
        obtain ⟨c2, _, rfl⟩ := lb
        rw [rep_len1]
        exact hx
      (try simp only [List.cons_append, List.nil_append] at N10)
      k_steps
      refine Hold.mk ?_
      (with_reducible rename Fr _ _ _ _ => F9)
      (with_reducible rename News _ _ _ _ => N9)
      refine replaceN g _ [(b, a)] [.str b tb, .str a ta] (.cons _ _ _ _ .nil) (Nat.le_of_ble_eq_true rfl) ?_ ?_ _ _ _ _ _ _ _ _ _ _ _ _ _ _ _ _ _ B F9 X T ?_ ?_ ?_ trivial ?_
      · rintro pre suf e
        rcases pre with _ | ⟨p0, pre⟩
        · exact hx
        · rcases pre with _ | ⟨p1, pre⟩
          · cases e
            exact hjl
          · cases e
      · intro p hp
        rw [List.mem_singleton.mp hp]
        exact ⟨by rw [ltr1_len lb]; rfl, by rw [ltr1_len la]; decide⟩
      · first | exact rfl | assumption
      · ktr_room
      · ktr_units
      · intro t7 h7 tk7 F7 k7
        have N7 := news_kept N9 k7
        clear N9 F9 k7
        rw [show repAll g [(b, a)] = rep g b a from rfl]
        k_steps
        refine Hold.mk ?_
        (with_reducible rename Fr _ _ _ _ => F7)
        (with_reducible rename News _ _ _ _ => N7)
        refine crossed _ _ _ _ _ _ _ _ _ _ _ _ _ _ _ _ _ (rep g b a) _ _ _ [.str a ta] vs 0 n1 [a] ks _ B F7 X T ?_ ?_ ?_ N7 (.head _) (.tail _ (.tail _ (.tail _ (.tail _ (.tail _ (.tail _ (.head _))))))) (.cons _ _ .nil) hks (fun z hz => by rw [List.mem_singleton.mp hz]; exact la) hl1 (Nat.le_of_ble_eq_true rfl) (by omega) hjl ?_
        · first | exact rfl | assumption
        · ktr_room
        · ktr_units
        · intro h6 tk6 F6 k6
          have N6 := news_kept N7 k6
          clear N7 F7 k6
          cases hb1 : crAll (rep g b a) [a] ks with
          | true =>
            k_steps
            refine Hold.mk ?_
            (with_reducible rename Fr _ _ _ _ => F7)
            (with_reducible rename News _ _ _ _ => N7)
            refine endZ F7 N7 [(D2, listOf (ws.drop (i + 1)).toArray 0), (I + 1, oE), (I, oL), (lX, listOf ws.toArray n2), (lO, listOf vs.toArray n1), (lG, oG)] (fun p hp => .tail _ hp) ?_ ⟨⟨.head _, trivial⟩, rfl, (((six_mk _ _ _ _ _ _ _ _ _ _).put _ _ (by decide +kernel)).put _ _ (by decide +kernel)).put _ _ (by decide +kernel), (if_neg (by decide)).trans ((if_neg (by decide)).trans (if_pos rfl))⟩
            intro p hp q hq
            rw [List.mem_singleton.mp hq]
            exact Nat.ne_of_lt (hI2 p hp)
          | false =>
            have hab2 : crAll (rep g b a) ks [a] = true := hab.resolve_left (by rw [hb1]; decide)
            k_steps
            refine Hold.mk ?_
            (with_reducible rename Fr _ _ _ _ => F7)
            (with_reducible rename News _ _ _ _ => N7)
            refine crossed _ _ _ _ _ _ _ _ _ _ _ _ _ _ _ _ _ (rep g b a) _ _ _ vs [.str a ta] n1 0 ks [a] _ B F7 X T ?_ ?_ ?_ N7 (.tail _ (.tail _ (.tail _ (.tail _ (.tail _ (.tail _ (.tail _ (.head _)))))))) (.head _) hks (.cons _ _ .nil) hl1 (fun z hz => by rw [List.mem_singleton.mp hz]; exact la) (by omega) (Nat.le_of_ble_eq_true rfl) hjl ?_
            · first | exact rfl | assumption
            · ktr_room
            · ktr_units
            · intro h6 tk6 F6 k6
              have N6 := news_kept N7 k6
              clear N7 F7 k6
              rw [hab2]
              k_steps
              refine Hold.mk ?_
              (with_reducible rename Fr _ _ _ _ => F7)
              (with_reducible rename News _ _ _ _ => N7)
              refine endZ F7 N7 [(D2, listOf (ws.drop (i + 1)).toArray 0), (I + 1, oE), (I, oL), (lX, listOf ws.toArray n2), (lO, listOf vs.toArray n1), (lG, oG)] (fun p hp => .tail _ (.tail _ hp)) ?_ ⟨⟨.head _, trivial⟩, rfl, (((six_mk _ _ _ _ _ _ _ _ _ _).put _ _ (by decide +kernel)).put _ _ (by decide +kernel)).put _ _ (by decide +kernel), (if_neg (by decide)).trans ((if_neg (by decide)).trans (if_pos rfl))⟩
              intro p hp q hq
              rw [List.mem_singleton.mp hq]
              exact Nat.ne_of_lt (hI2 p hp)
    · rintro m2 news2 ⟨rfl, j6, j7⟩ h9 tk9 F9 N10
      k_steps
      refine Hold.mk ?_
      (with_reducible rename Fr _ _ _ _ => F7)
      (with_reducible rename News _ _ _ _ => N7)
      refine endZ F7 N7 [(lX, listOf ws.toArray n2), (lO, listOf vs.toArray n1), (lG, oG)] (fun p hp => .tail _ hp) ?_ ⟨⟨.head _, trivial⟩, rfl, j6⟩
      intro p hp q hq
      have h1 := hI p hp
      simp only [List.mem_cons, List.not_mem_nil, or_false] at hq
      rcases hq with rfl | rfl
      · exact Nat.ne_of_lt (Nat.lt_succ_of_lt h1)
      · exact Nat.ne_of_lt h1
    · exact ((six_mk _ _ _ _ _ _ _ _ _ _).put _ _ (by decide +kernel)).put _ _ (by decide +kernel)
    · exact if_pos rfl
  · rintro m2 news2 ⟨rfl, j6⟩ h8 tk8 F8 N8
    exact hret _ _ _ F8 N8 j6
end Mine
end
theorem Mine.slate22 : True := by first | walk1 | trivial
section
open PySem PySem.W PyProof.Rows
set_option Elab.async false
set_option maxRecDepth 100000
set_option maxHeartbeats 8000000
set_option pp.deepTerms true
set_option pp.proofs false
namespace Mine
local macro_rules | `(tactic| walk_at "call ref") => `(tactic| (k_here; (with_reducible first | show wpAny _ _ (call (Value.ref 205) _ _) _ _ _ | show wpAny _ _ (call (Value.ref 217) _ _) _ _ _); refine Hold.out ?_))
local macro_rules | `(tactic| walk_at "subscriptTail") => `(tactic| (k_here; refine Hold.out ?_))
def rotS (x : Str) : Str := Txt.slice x (some 1) none ++ Txt.item x 0
theorem st12 {w : World} {p : Program} {loose : List Str} {mean : ExcName → Option Value} {mg mb : Str → Option Value} (fa : Addr) (cdv : Value) (base h₀ : Heap) (L : Addr) (m : Str → Option Value) (s : Shared) (Q : Flow → Shared → Prop) (E : Value → Shared → Prop)
    (g z x : Str) (t u v : Tok) (lX lO lG : Addr) (gs : List Value) (ng : Nat) (ns : List Int)
    (B : Below callerA base [] h₀) (F : Fr h₀ L s.heap m) (X : (hd1.heap_39 w.params).In h₀) (T : Top p loose mean mg mb h₀)
    (N : News h₀ L s.heap [(lG, listOf gs.toArray ng)]) (hgs : IntsAre gs ns) (hgl : gs.length = 5) (hz : z.length = 5) (haz : z.cps.all (· < 128) = true) (hplz : ∀ c ∈ z.cps.toList, 97 ≤ c ∧ c ≤ 122)
    (hx : x.length = 5)
    (hs1 : (secondOf z).length = 5) (hs2 : (secondOf z).cps.all (· < 128) = true) (hs3 : ∀ c ∈ (secondOf z).cps.toList, 97 ≤ c)
    (hr1 : (rotS x).length = 5) (hr2 : (rotS x).cps.all (· < 128) = true) (hr3 : ∀ c ∈ (rotS x).cps.toList, 97 ≤ c)
    (hq : nameOf (secondOf z) = nameOf (rotS x))
    (h6 : Six m g z x t u v lX lO lG)
    (hret : ∀ h d tk m', Fr h₀ L h m' → Q (.ret (.bool true)) { s with heap := h, drawn := d, toks := tk }) :
    wpAny (model PySem.Challenge.rw_pg0249_01.row.prog w) (lawA L fa cdv) (exec (nthS lawBody 12) (lawE L fa cdv)) Q E s := by
  revert X; k_fill; intro X
  have eS : lawScope = lawScope := rfl
  have eB : nthS lawBody 12 = nthS lawBody 12 := rfl
  (conv at eS => rhs; whnf)
  (conv at eB => rhs; whnf)
  unfold lawA lawE
  rw [eS, eB]
  clear eS eB
  obtain ⟨m, rfl⟩ := h6.see
  clear h6
  k_steps
  refine Hold.mk ?_
  (with_reducible rename Fr _ _ _ _ => F9)
  (with_reducible rename News _ _ _ _ => N9)
  refine second _ _ _ _ _ _ _ _ _ _ _ _ _ _ _ _ _ z _ lG gs ng ns B F9 X T ?_ ?_ ?_ N9 hgs hgl hz haz hplz ?_
  · first | exact rfl | assumption
  · ktr_room
  · ktr_units
  intro t1 h1 d1 tk1 F1 N1
  clear F9 N9
  k_steps
  refine Hold.mk ?_
  (with_reducible rename Fr _ _ _ _ => F9)
  (with_reducible rename News _ _ _ _ => N9)
  refine named (secondOf z) _ hs1 hs2 hs3 _ _ _ _ _ _ _ _ _ _ _ _ _ _ _ _ _ B F9 X T ?_ ?_ ?_ trivial ?_
  · first | exact rfl | assumption
  · ktr_room
  · ktr_units
  intro t7 h7 tk7 F7 k7
  have N7 := news_kept N9 k7
  clear N9 F9 k7
  k_steps
  refine Hold.mk ?_
  (with_reducible rename Fr _ _ _ _ => F9)
  (with_reducible rename News _ _ _ _ => N9)
  refine named (rotS x) _ hr1 hr2 hr3 _ _ _ _ _ _ _ _ _ _ _ _ _ _ _ _ _ B F9 X T ?_ ?_ ?_ trivial ?_
  · first | exact rfl | assumption
  · ktr_room
  · ktr_units
  intro t8 h8 tk8 F8 k8
  clear N9 F9 k8
  have hqq : (nameOf (secondOf z) == nameOf (rotS x)) = true := by rw [hq]; exact beq_self_eq_true _
  (try dsimp only)
  k_steps
  rw [hqq]
  exact hret _ _ _ _ (by k_asm)
end Mine
end
section
open PySem PySem.W PyProof.Rows
set_option Elab.async false
set_option maxRecDepth 100000
set_option maxHeartbeats 8000000
set_option pp.deepTerms true
set_option pp.proofs false
namespace Mine
theorem tail_eq : lawBody.drop 1 = [nthS lawBody 1, nthS lawBody 2, nthS lawBody 3, nthS lawBody 4, nthS lawBody 5, nthS lawBody 6, nthS lawBody 7, nthS lawBody 8, nthS lawBody 9, nthS lawBody 10, nthS lawBody 11, nthS lawBody 12] := rfl
/-- the letters of a word, each once, in any order -/
def LettersOf (ks : List Str) (x : Str) : Prop := ks.Perm (met x.cps.toList x.cps.size)
def bothS (x z : Str) : Str := strOf (inter x.cps.toList z.cps.toList)
structure Law1Ok (x : Str) : Prop where
  hx : x.length = 5
  ha : x.cps.all (· < 128) = true
  hpl : ∀ c ∈ x.cps.toList, 97 ≤ c ∧ c ≤ 122
  hz : (secondOf x).length = 5
  haz : (secondOf x).cps.all (· < 128) = true
  hplz : ∀ c ∈ (secondOf x).cps.toList, 97 ≤ c ∧ c ≤ 122
  lx : ∀ y ∈ met x.cps.toList x.cps.size, ltr1 y
  lz : ∀ y ∈ met (secondOf x).cps.toList (secondOf x).cps.size, ltr1 y
  hb : (bothS x (secondOf x)).length ≤ 1000
  hs1 : (secondOf (secondOf x)).length = 5
  hs2 : (secondOf (secondOf x)).cps.all (· < 128) = true
  hs3 : ∀ c ∈ (secondOf (secondOf x)).cps.toList, 97 ≤ c
  hr1 : (rotS x).length = 5
  hr2 : (rotS x).cps.all (· < 128) = true
  hr3 : ∀ c ∈ (rotS x).cps.toList, 97 ≤ c
  c7 : ∀ ks zs, LettersOf ks x → LettersOf zs (secondOf x) → (((ks.length : Int) + (zs.length : Int) == 6) == crAll x ks ks) = false
  c10 : ∀ ks zs, LettersOf ks x → LettersOf zs (secondOf x) → crAll x ks ks = false → crAll (bothS x (secondOf x)) (ks ++ zs) (ks ++ zs) = false
  c11 : ∀ ks zs, LettersOf ks x → LettersOf zs (secondOf x) → crAll x ks ks = false → ∀ (i j : Nat) (a b : Str), i < j → zs[i]? = some a → zs[j]? = some b → crAll (rep (bothS x (secondOf x)) b a) [a] ks = true ∨ crAll (rep (bothS x (secondOf x)) b a) ks [a] = true
  c12 : ∀ ks, LettersOf ks x → crAll x ks ks = false → nameOf (secondOf (secondOf x)) = nameOf (rotS x)
theorem letters_len {x : Str} {ks : List Str} (h : LettersOf ks x) (hx : x.length = 5) : ks.length ≤ 5 := by
  rw [h.length_eq]
  have h := met_len x.cps.toList x.cps.size (by simp)
  rw [show x.cps.size = 5 from hx] at h ⊢
  exact h
theorem greatL_len (ns : List Int) : (greatL ns).length = ns.length := List.length_map _
theorem tail1 {w : World} {p : Program} {loose : List Str} {mean : ExcName → Option Value} {mg mb : Str → Option Value} (fa : Addr) (cdv : Value) (base h₀ : Heap) (L : Addr) (m : Str → Option Value) (s : Shared) (Q : Flow → Shared → Prop) (E : Value → Shared → Prop)
    (l : Addr) (n : Nat) (vs : List Value) (ns : List Int) (ok : Law1Ok (strOf (wordL ns)))
    (B : Below callerA base [] h₀) (F : Fr h₀ L s.heap m) (X : (hd1.heap_39 w.params).In h₀) (T : Top p loose mean mg mb h₀)
    (N : News h₀ L s.heap [(l, listOf vs.toArray n)]) (hm : m (Str.ofString "numbers") = some (.ref l)) (hv : IntsAre vs ns) (hn : ns.length = 5)
    (hE : PassesOwn (model PySem.Challenge.rw_pg0249_01.row.prog w) (lawA L fa cdv) (lawE L fa cdv) E)
    (hret : ∀ h d tk m', Fr h₀ L h m' → Q (.ret (.bool true)) { s with heap := h, drawn := d, toks := tk }) :
    wpAny (model PySem.Challenge.rw_pg0249_01.row.prog w) (lawA L fa cdv) (execs (lawBody.drop 1) (lawE L fa cdv)) Q E s := by
  rw [tail_eq]
  generalize hxx : strOf (wordL ns) = x at ok
  refine wpAny_execs_cons (st1 fa cdv base h₀ L m s _ E l n vs ns B F X T N hm hv hn ?_)
  clear N F
  intro h tk t F N
  rw [hxx] at F
  (try dsimp only)
  refine wpAny_execs_cons (st2 fa cdv base h₀ L _ _ _ E l n vs ns B F X T N ((if_neg (by decide)).trans hm) hv hn ?_)
  clear N F
  intro h tk lG gs ng F N hgs
  have hgl : gs.length = 5 := by rw [hgs.length, greatL_len, hn]
  (try dsimp only)
  refine wpAny_execs_cons (st3 fa cdv base h₀ L _ _ _ E x t lG gs ng (greatL ns) B F X T N hgs hgl ok.hx ok.ha ok.hpl ((if_neg (by decide)).trans (if_pos rfl)) (if_pos rfl) ?_)
  clear N F
  intro h d tk u F N
  (try dsimp only)
  refine wpAny_execs_cons (st4 fa cdv base h₀ L _ _ _ E x t _ B F X T N ok.hx ((if_neg (by decide)).trans ((if_neg (by decide)).trans (if_pos rfl))) ?_)
  clear N F
  intro h d tk lO us ks n1 F N hks pks
  (try dsimp only)
  refine wpAny_execs_cons (st5 fa cdv base h₀ L _ _ _ E (secondOf x) u _ B F X T N ok.hz ((if_neg (by decide)).trans (if_pos rfl)) ?_)
  clear N F
  intro h d tk lX ws zs n2 F N hzs pzs
  have lks : ∀ y ∈ ks, ltr1 y := fun y hy => ok.lx y (pks.mem_iff.mp hy)
  have lzs : ∀ y ∈ zs, ltr1 y := fun y hy => ok.lz y (pzs.mem_iff.mp hy)
  have kn := letters_len pks ok.hx
  have zn := letters_len pzs ok.hz
  have kn2 : us.length ≤ 20 := by rw [hks.length]; omega
  have zn2 : ws.length ≤ 20 := by rw [hzs.length]; omega
  (try dsimp only)
  refine wpAny_execs_cons (st6 fa cdv base h₀ L _ _ _ E x t lO us n1 ks _ B F X T N (.tail _ (.head _)) hks lks (by omega) (by rw [ok.hx]; decide) ((if_neg (by decide)).trans ((if_neg (by decide)).trans ((if_neg (by decide)).trans ((if_neg (by decide)).trans (if_pos rfl))))) ((if_neg (by decide)).trans (if_pos rfl)) ?_)
  clear N F
  intro h tk F N
  have c7 := ok.c7 ks zs pks pzs
  (try dsimp only)
  refine wpAny_execs_cons (st7 fa cdv base h₀ L _ _ _ E lO lX us ws n1 n2 (crAll x ks ks) _ B F X T N (.tail _ (.head _)) (.head _) kn2 zn2 (by rw [hks.length, hzs.length]; exact c7) ((if_neg (by decide)).trans ((if_neg (by decide)).trans (if_pos rfl))) ((if_neg (by decide)).trans (if_pos rfl)) (if_pos rfl) ?_)
  clear N F
  intro h tk F N
  (try dsimp only)
  refine wpAny_execs_cons (st8 fa cdv base h₀ L _ _ _ E (crAll x ks ks) _ B F X T N (if_pos rfl) ?_)
  cases hcr : crAll x ks ks with
  | true =>
    rw [if_pos rfl]
    exact hret _ _ _ _ F
  | false =>
    rw [if_neg (by decide)]
    have c10 := ok.c10 ks zs pks pzs hcr
    have c11 := ok.c11 ks zs pks pzs hcr
    have c12 := ok.c12 ks pks hcr
    (try dsimp only)
    refine wpAny_execs_cons (st9 fa cdv base h₀ L _ _ _ E x (secondOf x) t u _ B F X T N ok.hx ok.hz ok.ha ok.haz ((if_neg (by decide)).trans ((if_neg (by decide)).trans ((if_neg (by decide)).trans ((if_neg (by decide)).trans ((if_neg (by decide)).trans (if_pos rfl)))))) ((if_neg (by decide)).trans ((if_neg (by decide)).trans ((if_neg (by decide)).trans (if_pos rfl)))) ?_)
    clear N F
    intro h tk t9 F N
    have N10 : News h₀ L h [(lO, listOf us.toArray n1), (lX, listOf ws.toArray n2), (lG, listOf gs.toArray ng)] := fun p hp => N p (by
      simp only [List.mem_cons, List.not_mem_nil, or_false] at hp ⊢
      rcases hp with hp | hp | hp <;> simp only [hp, true_or, or_true])
    (try dsimp only)
    refine wpAny_execs_cons (st10 fa cdv base h₀ L _ _ _ E (bothS x (secondOf x)) t9 lO lX us ws n1 n2 ks zs _ B F X T N10 hks hzs lks lzs (by omega) (by omega) ok.hb c10 (if_pos rfl) ((if_neg (by decide)).trans ((if_neg (by decide)).trans ((if_neg (by decide)).trans (if_pos rfl)))) ((if_neg (by decide)).trans ((if_neg (by decide)).trans (if_pos rfl))) ?_)
    clear N N10 F
    intro h tk F N
    have N11 : News h₀ L h [(lX, listOf ws.toArray n2), (lO, listOf us.toArray n1), (lG, listOf gs.toArray ng)] := fun p hp => N p (by
      simp only [List.mem_cons, List.not_mem_nil, or_false] at hp ⊢
      rcases hp with hp | hp | hp <;> simp only [hp, true_or, or_true])
    (try dsimp only)
    refine wpAny_execs_cons (st11 fa cdv base h₀ L _ _ _ E (bothS x (secondOf x)) (secondOf x) x t9 u t lX lO lG us ws n1 n2 ks zs _ B F X T N11 hks hzs lks lzs (by omega) (by omega) ok.hb c11 ⟨if_pos rfl, (if_neg (by decide)).trans ((if_neg (by decide)).trans (if_pos rfl)), (if_neg (by decide)).trans ((if_neg (by decide)).trans ((if_neg (by decide)).trans (if_pos rfl))), (if_neg (by decide)).trans ((if_neg (by decide)).trans ((if_neg (by decide)).trans ((if_neg (by decide)).trans (if_pos rfl)))), (if_neg (by decide)).trans ((if_neg (by decide)).trans ((if_neg (by decide)).trans ((if_neg (by decide)).trans ((if_neg (by decide)).trans (if_pos rfl))))), (if_neg (by decide)).trans ((if_neg (by decide)).trans ((if_neg (by decide)).trans ((if_neg (by decide)).trans ((if_neg (by decide)).trans ((if_neg (by decide)).trans (if_pos rfl))))))⟩ hE ?_)
    clear N N11 F
    intro h tk m' F N h6
    have N12 : News h₀ L h [(lG, listOf gs.toArray ng)] := fun p hp => N p (.tail _ (.tail _ hp))
    (try dsimp only)
    refine wpAny_execs_cons (st12 fa cdv base h₀ L _ _ _ E (bothS x (secondOf x)) (secondOf x) x t9 u t lX lO lG gs ng (greatL ns) B F X T N12 hgs hgl ok.hz ok.haz ok.hplz ok.hx ok.hs1 ok.hs2 ok.hs3 ok.hr1 ok.hr2 ok.hr3 c12 h6 ?_)
    intro h d tk m9 F9
    exact hret _ _ _ _ F9
end Mine
end
section
open PySem PySem.W PyProof.Rows PySem.StrLaws PySem.Builtin PySem.Builtin.Str
set_option Elab.async false
set_option maxRecDepth 100000
namespace Mine
abbrev one (c : Nat) : Str := ⟨#[c]⟩
/-- what is behind the first c -/
def after (c : Nat) : List Nat → Option (List Nat)
  | [] => none
  | a :: l => if a = c then some l else after c l
theorem strOf_list (l : List Nat) : (strOf l).cps.toList = l := rfl
theorem strOf_len (l : List Nat) : (strOf l).length = l.length := by
  show l.toArray.size = _
  simp
theorem occ1 (l : List Nat) (c free : Nat) : ∀ k i, i + k = l.length + 1 → free ≤ i → i ≤ l.length →
    match after c (l.drop i) with
    | none => occGo (strOf l) (one c) l.length 1 (List.range' i k) free 0 = []
    | some r => ∃ j t, occGo (strOf l) (one c) l.length 1 (List.range' i k) free 0 = j :: t ∧ i ≤ j ∧ j + 1 ≤ l.length ∧ r = l.drop (j + 1)
  | 0, i, h, _, hi => absurd h (by omega)
  | k + 1, i, h, hf, hi => by
    have e1 : (one c).length = 1 := rfl
    rw [List.range'_succ]
    unfold occGo
    rw [e1]
    rcases Nat.lt_or_ge i l.length with hlt | hge
    · have ih := occ1 l c free k (i + 1) (by omega) (by omega) (by omega)
      have hat : (subAt (strOf l) (one c) i = true) ↔ l[i] = c := by
        have := at_one (x := strOf l) (c := c) (k := i)
        unfold At at this
        rw [strOf_list, strOf_len, List.getElem?_eq_getElem hlt] at this
        constructor
        · exact fun q => by simpa using this.mp ⟨by rw [e1]; exact hlt, q⟩
        · exact fun q => (this.mpr (by rw [q])).2
      rw [List.drop_eq_getElem_cons hlt]
      unfold after
      by_cases hc : l[i] = c
      · rw [if_pos hc, if_pos ⟨by omega, hf, by omega, hat.mpr hc⟩]
        exact ⟨i, _, rfl, Nat.le_refl _, hlt, rfl⟩
      · rw [if_neg hc, if_neg (fun q => hc (hat.mp q.2.2.2))]
        cases ha : after c (l.drop (i + 1)) with
        | none =>
          rw [ha] at ih
          exact ih
        | some r =>
          rw [ha] at ih
          obtain ⟨j, t, q1, q2, q3, q4⟩ := ih
          exact ⟨j, t, q1, by omega, q3, q4⟩
    · have hk : k = 0 := by omega
      subst hk
      rw [List.drop_eq_nil_of_le hge]
      show (if _ then _ else _) = _
      rw [if_neg (fun q => by have := q.2.2.1; omega)]
      rfl
theorem F4_after (l : List Nat) (c lo : Nat) (h : lo ≤ l.length) :
    match after c (l.drop lo) with
    | none => F4 (strOf l) (one c) lo l.length < 0
    | some r => 0 ≤ F4 (strOf l) (one c) lo l.length ∧ (F4 (strOf l) (one c) lo l.length + 1).toNat ≤ l.length ∧ r = l.drop (F4 (strOf l) (one c) lo l.length + 1).toNat := by
  have h1 := occ1 l c lo (l.length + 1 - lo) lo (by omega) (Nat.le_refl _) h
  unfold F4
  rw [occ_go]
  cases ha : after c (l.drop lo) with
  | none =>
    rw [ha] at h1
    simp only at h1 ⊢
    rw [h1]
    decide
  | some r =>
    rw [ha] at h1
    obtain ⟨j, t, q1, q2, q3, q4⟩ := h1
    simp only
    rw [q1]
    simp only
    refine ⟨by omega, by omega, ?_⟩
    rw [q4]
    congr 1
theorem after_sub (c : Nat) (p : List Nat) : ∀ l : List Nat, (c :: p).Sublist l ↔ ∃ r, after c l = some r ∧ p.Sublist r
  | [] => by simp [after]
  | a :: l => by
    unfold after
    by_cases h : a = c
    · subst h
      rw [if_pos rfl, List.cons_sublist_cons]
      exact ⟨fun q => ⟨l, rfl, q⟩, fun ⟨r, e, q⟩ => by cases e; exact q⟩
    · rw [if_neg h, ← after_sub c p l]
      constructor
      · intro q
        cases q with
        | cons _ q => exact q
        | cons_cons _ q => exact absurd rfl h
      · exact fun q => q.cons a
theorem cross_sub (l : List Nat) (c d : Nat) : cross (strOf l) (one c) (one d) = true ↔ [c, d, c, d].Sublist l := by
  have e1 : ∀ x, ((one x).length : Nat) = 1 := fun _ => rfl
  have key : ∀ (lo : Nat) (x : Nat) (p : List Nat), lo ≤ l.length → ((x :: p).Sublist (l.drop lo) ↔ 0 ≤ F4 (strOf l) (one x) lo l.length ∧ (F4 (strOf l) (one x) lo l.length + 1).toNat ≤ l.length ∧ p.Sublist (l.drop (F4 (strOf l) (one x) lo l.length + 1).toNat)) := by
    intro lo x p hlo
    have h := F4_after l x lo hlo
    rw [after_sub]
    cases ha : after x (l.drop lo) with
    | none =>
      rw [ha] at h
      simp only at h
      constructor
      · rintro ⟨r, e, _⟩
        cases e
      · rintro ⟨q, _⟩
        omega
    | some r =>
      rw [ha] at h
      obtain ⟨q1, q2, q3⟩ := h
      constructor
      · rintro ⟨r', e, q⟩
        cases e
        exact ⟨q1, q2, q3 ▸ q⟩
      · rintro ⟨_, _, q⟩
        exact ⟨r, rfl, q3 ▸ q⟩
  have k0 : [c, d, c, d].Sublist l ↔ [c, d, c, d].Sublist (l.drop 0) := by rw [List.drop_zero]
  rw [k0, key 0 c _ (Nat.zero_le _)]
  unfold cross
  simp only [Bool.and_eq_true, decide_eq_true_eq]
  have f1 : p1 (strOf l) (one c) = F4 (strOf l) (one c) 0 l.length := by unfold p1; rw [strOf_len]
  have f2 : p2 (strOf l) (one c) (one d) = F4 (strOf l) (one d) (p1 (strOf l) (one c) + 1).toNat l.length := by unfold p2; rw [strOf_len]; rfl
  have f3 : p3 (strOf l) (one c) (one d) = F4 (strOf l) (one c) (p2 (strOf l) (one c) (one d) + 1).toNat l.length := by unfold p3; rw [strOf_len]; rfl
  have f4 : p4 (strOf l) (one c) (one d) = F4 (strOf l) (one d) (p3 (strOf l) (one c) (one d) + 1).toNat l.length := by unfold p4; rw [strOf_len]; rfl
  have b : ∀ (x lo : Nat), 0 ≤ F4 (strOf l) (one x) lo l.length → (F4 (strOf l) (one x) lo l.length + 1).toNat ≤ l.length := by
    intro x lo h
    have := F4_le (strOf l) (one x) lo l.length h
    have e : ((one x).length : Int) = 1 := rfl
    rw [e] at this
    omega
  rw [← f1]
  constructor
  · rintro ⟨h1, h2, h3, h4⟩
    have b1 := b c 0 (f1 ▸ h1)
    rw [← f1] at b1
    have b2 := b d _ (f2 ▸ h2)
    rw [← f2] at b2
    have b3 := b c _ (f3 ▸ h3)
    rw [← f3] at b3
    have b4 := b d _ (f4 ▸ h4)
    rw [← f4] at b4
    refine ⟨h1, b1, ?_⟩
    rw [key _ d _ b1, ← f2]
    refine ⟨h2, b2, ?_⟩
    rw [key _ c _ b2, ← f3]
    refine ⟨h3, b3, ?_⟩
    rw [key _ d _ b3, ← f4]
    exact ⟨h4, b4, List.nil_sublist _⟩
  · rintro ⟨h1, b1, q⟩
    rw [key _ d _ b1, ← f2] at q
    obtain ⟨h2, b2, q⟩ := q
    rw [key _ c _ b2, ← f3] at q
    obtain ⟨h3, b3, q⟩ := q
    rw [key _ d _ b3, ← f4] at q
    exact ⟨h1, h2, h3, q.1⟩
/-- a letter of ks and one of zs stand as x y x y -/
theorem crAll_sub (l : List Nat) {ks zs : List Str} {P R : Nat → Prop} (hk : ∀ s, s ∈ ks ↔ ∃ c, P c ∧ s = one c) (hz : ∀ s, s ∈ zs ↔ ∃ c, R c ∧ s = one c) :
    crAll (strOf l) ks zs = true ↔ ∃ c d, P c ∧ R d ∧ c ≠ d ∧ [c, d, c, d].Sublist l := by
  unfold crAll
  rw [List.any_eq_true]
  constructor
  · rintro ⟨x, hx, h⟩
    obtain ⟨y, hy, h⟩ := List.any_eq_true.mp h
    obtain ⟨c, hc, rfl⟩ := (hk x).mp hx
    obtain ⟨d, hd, rfl⟩ := (hz y).mp hy
    rw [Bool.and_eq_true] at h
    refine ⟨c, d, hc, hd, fun e => ?_, (cross_sub l c d).mp h.2⟩
    subst e
    simp at h
  · rintro ⟨c, d, hc, hd, hcd, h⟩
    refine ⟨one c, (hk _).mpr ⟨c, hc, rfl⟩, List.any_eq_true.mpr ⟨one d, (hz _).mpr ⟨d, hd, rfl⟩, ?_⟩⟩
    rw [Bool.and_eq_true]
    refine ⟨?_, (cross_sub l c d).mpr h⟩
    rw [bne_iff_ne]
    intro e
    exact hcd (by
      have := congrArg (fun z : Str => z.cps.toList) e
      exact List.head_eq_of_cons_eq this)
end Mine
end
section
open PySem PySem.W PyProof.Rows PySem.StrLaws PySem.Builtin PySem.Builtin.Str
set_option Elab.async false
set_option maxRecDepth 100000
namespace Mine
def nubS (ss : List Nat) (c : Nat) : List Nat := if c ∈ ss then ss else ss ++ [c]
/-- the letters of a word as they come -/
def nub (l : List Nat) : List Nat := l.foldl nubS []
theorem one_inj {a b : Nat} (h : one a = one b) : a = b := List.head_eq_of_cons_eq (congrArg (fun z : Str => z.cps.toList) h)
theorem mem_one {c : Nat} {ss : List Nat} : one c ∈ ss.map one ↔ c ∈ ss := by
  rw [List.mem_map]
  exact ⟨fun ⟨d, hd, e⟩ => one_inj e ▸ hd, fun h => ⟨c, h, rfl⟩⟩
theorem met_go : ∀ (l acc : List Nat), l.foldl (fun ss c => if (⟨#[c]⟩ : Str) ∈ ss then ss else ss ++ [⟨#[c]⟩]) (acc.map one) = (l.foldl nubS acc).map one
  | [], acc => rfl
  | c :: l, acc => by
    rw [List.foldl_cons, List.foldl_cons, ← met_go l]
    congr 1
    unfold nubS
    by_cases h : c ∈ acc
    · rw [if_pos h, if_pos (mem_one.mpr h)]
    · rw [if_neg h, if_neg (fun q => h (mem_one.mp q)), List.map_append]
      rfl
theorem met_nub (l : List Nat) : met l l.length = (nub l).map one := by
  unfold met nub
  rw [List.take_length]
  exact met_go l []
theorem nub_go_mem : ∀ (l acc : List Nat) (c : Nat), c ∈ l.foldl nubS acc ↔ c ∈ acc ∨ c ∈ l
  | [], acc, c => by simp
  | d :: l, acc, c => by
    rw [List.foldl_cons, nub_go_mem l]
    unfold nubS
    by_cases h : d ∈ acc
    · rw [if_pos h, List.mem_cons]
      constructor
      · rintro (q | q)
        · exact .inl q
        · exact .inr (.inr q)
      · rintro (q | rfl | q)
        · exact .inl q
        · exact .inl h
        · exact .inr q
    · rw [if_neg h, List.mem_append, List.mem_singleton, List.mem_cons]
      constructor
      · rintro ((q | q) | q)
        · exact .inl q
        · exact .inr (.inl q)
        · exact .inr (.inr q)
      · rintro (q | q | q)
        · exact .inl (.inl q)
        · exact .inl (.inr q)
        · exact .inr q
theorem mem_nub {l : List Nat} {c : Nat} : c ∈ nub l ↔ c ∈ l := by
  unfold nub
  rw [nub_go_mem]
  simp
theorem nub_go_nodup : ∀ (l acc : List Nat), acc.Nodup → (l.foldl nubS acc).Nodup
  | [], _, h => h
  | d :: l, acc, h => by
    rw [List.foldl_cons]
    refine nub_go_nodup l _ ?_
    unfold nubS
    by_cases hd : d ∈ acc
    · rw [if_pos hd]; exact h
    · rw [if_neg hd, List.nodup_append]
      refine ⟨h, by simp, fun a ha b hb => ?_⟩
      rw [List.mem_singleton.mp hb]
      exact fun e => hd (e ▸ ha)
theorem nub_nodup (l : List Nat) : (nub l).Nodup := nub_go_nodup l [] List.nodup_nil
theorem nub_go_len : ∀ (l acc : List Nat), (l.foldl nubS acc).length ≤ acc.length + l.length
  | [], _ => Nat.le_refl _
  | d :: l, acc => by
    rw [List.foldl_cons]
    have := nub_go_len l (nubS acc d)
    have h : (nubS acc d).length ≤ acc.length + 1 := by
      unfold nubS
      split
      · omega
      · rw [List.length_append]; exact Nat.le_refl _
    rw [List.length_cons]
    omega
theorem nub_len (l : List Nat) : (nub l).length ≤ l.length := by
  have := nub_go_len l []
  rwa [List.length_nil, Nat.zero_add] at this
theorem str_of {x : Str} {l : List Nat} (h : x.cps.toList = l) : x = strOf l := by
  obtain ⟨a⟩ := x
  subst h
  rfl
theorem sub1_map (b a : Nat) : ∀ l : List Nat, sub1 b [a] l = l.map fun c => if c = b then a else c
  | [] => rfl
  | c :: l => by
    have ih := sub1_map b a l
    unfold sub1 at ih ⊢
    rw [List.flatMap_cons, ih, List.map_cons]
    by_cases h : c = b
    · rw [if_pos h, if_pos h]; rfl
    · rw [if_neg h, if_neg h]; rfl
/-- one letter put for another -/
def sb (b a : Nat) (l : List Nat) : List Nat := l.map fun c => if c = b then a else c
theorem rep_strOf (l : List Nat) (b a : Nat) : rep (strOf l) (one b) (one a) = strOf (sb b a l) := by
  refine str_of ?_
  have h := rep_one (strOf l) (one a) b
  rw [strOf_list] at h
  exact h.trans (sub1_map b a l)
/-- the letters named as they come: 49, 50, .. -/
def nm (l : List Nat) : List Nat := l.map fun c => 49 + (nub l).idxOf c
def gP (pre : List Nat) (c : Nat) : Nat := if c ∈ pre then 49 + pre.idxOf c else c
theorem name_go (l : List Nat) (hl : ∀ c ∈ l, 97 ≤ c) : ∀ (suf pre : List Nat), (pre ++ suf).Nodup → (∀ c ∈ pre ++ suf, 97 ≤ c) → (pre ++ suf).length ≤ 40 →
    repAll (strOf (l.map (gP pre))) (((suf.map one).zipIdx pre.length).map fun p => (p.1, dig p.2)) = strOf (l.map (gP (pre ++ suf)))
  | [], pre, _, _, _ => by rw [List.append_nil]; rfl
  | c0 :: suf, pre, hn, h97, h40 => by
    have ih := name_go l hl suf (pre ++ [c0]) (by rw [List.append_assoc]; exact hn) (by rw [List.append_assoc]; exact h97) (by rw [List.append_assoc]; exact h40)
    have hc0 : 97 ≤ c0 := h97 c0 (by simp)
    have hp : pre.length < 40 := by rw [List.length_append, List.length_cons] at h40; omega
    have hnp : c0 ∉ pre := fun hm => by
      rw [List.nodup_append] at hn
      exact hn.2.2 c0 hm c0 (.head _) rfl
    rw [List.append_assoc] at ih
    rw [show pre ++ c0 :: suf = pre ++ ([c0] ++ suf) from rfl, ← ih, List.length_append, List.length_singleton]
    show repAll (rep (strOf (l.map (gP pre))) (one c0) (one (49 + pre.length))) _ = _
    rw [rep_strOf]
    congr 2
    unfold sb
    rw [List.map_map]
    refine List.map_congr_left fun c _ => ?_
    simp only [Function.comp_apply]
    unfold gP
    by_cases hc : c ∈ pre
    · have hx := List.idxOf_lt_length_of_mem hc
      rw [if_pos hc, if_neg (by omega), if_pos (List.mem_append_left _ hc), List.idxOf_append, if_pos hc]
    · rw [if_neg hc]
      by_cases e : c = c0
      · subst e
        rw [if_pos rfl, if_pos (List.mem_append_right _ (.head _)), List.idxOf_append, if_neg hc]
        simp
      · rw [if_neg e, if_neg (fun q => by
          rcases List.mem_append.mp q with q | q
          · exact hc q
          · exact e (List.mem_singleton.mp q))]
theorem nameOf_strOf (l : List Nat) (hl : ∀ c ∈ l, 97 ≤ c) (h40 : l.length ≤ 40) : nameOf (strOf l) = strOf (nm l) := by
  have h := name_go l hl (nub l) [] (nub_nodup l) (fun c hc => hl c (mem_nub.mp hc)) (Nat.le_trans (nub_len l) h40)
  have e0 : l.map (gP []) = l := by
    conv => rhs; rw [← List.map_id l]
    exact List.map_congr_left fun c _ => by unfold gP; rw [if_neg (by simp)]; rfl
  rw [e0] at h
  unfold nameOf prs
  rw [strOf_list, met_nub]
  refine h.trans ?_
  congr 1
  refine List.map_congr_left fun c hc => ?_
  unfold gP
  rw [List.nil_append, if_pos (mem_nub.mpr hc)]
theorem rot_ix : strSliceIndices (some 1) none 1 5 = [1, 2, 3, 4] := by decide +kernel
theorem rotS_five (a b c d e : Nat) : rotS (strOf [a, b, c, d, e]) = strOf [b, c, d, e, a] := by
  unfold rotS Txt.slice
  rw [show (strOf [a, b, c, d, e]).length = 5 from rfl, rot_ix]
  rfl
end Mine
end
section
open PySem PySem.W PyProof.Rows
set_option Elab.async false
set_option maxRecDepth 100000
namespace Mine
/-- no two of the letters are made one -/
def InjOn (f : Nat → Nat) (l : List Nat) : Prop := ∀ a ∈ l, ∀ b ∈ l, f a = f b → a = b
theorem InjOn.sub {f : Nat → Nat} {l r : List Nat} (h : InjOn f l) (hr : ∀ c ∈ r, c ∈ l) : InjOn f r := fun a ha b hb => h a (hr a ha) b (hr b hb)
theorem nub_go_map {f : Nat → Nat} : ∀ (l acc : List Nat), InjOn f (acc ++ l) → (l.map f).foldl nubS (acc.map f) = (l.foldl nubS acc).map f
  | [], acc, _ => rfl
  | d :: l, acc, h => by
    rw [List.map_cons, List.foldl_cons, List.foldl_cons]
    have e : nubS (acc.map f) (f d) = (nubS acc d).map f := by
      unfold nubS
      by_cases hd : d ∈ acc
      · rw [if_pos hd, if_pos (List.mem_map_of_mem hd)]
      · rw [if_neg hd, if_neg, List.map_append]
        · rfl
        · intro q
          obtain ⟨a, ha, e⟩ := List.mem_map.mp q
          exact hd (h a (List.mem_append_left _ ha) d (List.mem_append_right _ (.head _)) e ▸ ha)
    rw [e]
    refine nub_go_map l _ (h.sub fun c hc => ?_)
    rcases List.mem_append.mp hc with hc | hc
    · unfold nubS at hc
      split at hc
      · exact List.mem_append_left _ hc
      · rcases List.mem_append.mp hc with hc | hc
        · exact List.mem_append_left _ hc
        · exact List.mem_append_right _ (List.mem_singleton.mp hc ▸ .head _)
    · exact List.mem_append_right _ (.tail _ hc)
theorem nub_map {f : Nat → Nat} {l : List Nat} (h : InjOn f l) : nub (l.map f) = (nub l).map f := nub_go_map l [] (by rwa [List.nil_append])
theorem idxOf_map {f : Nat → Nat} {c : Nat} : ∀ (l : List Nat), InjOn f (c :: l) → (l.map f).idxOf (f c) = l.idxOf c
  | [], _ => rfl
  | d :: l, h => by
    rw [List.map_cons, List.idxOf_cons, List.idxOf_cons, idxOf_map l (h.sub fun x hx => by
      rcases List.mem_cons.mp hx with rfl | hx
      · exact .head _
      · exact .tail _ (.tail _ hx))]
    have : (f d == f c) = (d == c) := by
      rw [Bool.eq_iff_iff, beq_iff_eq, beq_iff_eq]
      exact ⟨fun e => h d (.tail _ (.head _)) c (.head _) e, fun e => e ▸ rfl⟩
    rw [this]
theorem nm_map {f : Nat → Nat} {l : List Nat} (h : InjOn f l) : nm (l.map f) = nm l := by
  unfold nm
  rw [List.map_map, nub_map h]
  refine List.map_congr_left fun c hc => ?_
  simp only [Function.comp_apply]
  rw [idxOf_map _ (h.sub fun x hx => by
    rcases List.mem_cons.mp hx with rfl | hx
    · exact hc
    · exact mem_nub.mp hx)]
theorem sub4_map {f : Nat → Nat} {l : List Nat} (h : InjOn f l) {a b : Nat} (ha : a ∈ l) (hb : b ∈ l) : [f a, f b, f a, f b].Sublist (l.map f) ↔ [a, b, a, b].Sublist l := by
  constructor
  · intro q
    obtain ⟨l₂, q1, q2⟩ := List.sublist_map_iff.mp q
    have hm : ∀ c ∈ l₂, c ∈ l := fun c hc => q1.subset hc
    have hlen : l₂.length = 4 := by
      have := congrArg List.length q2
      simpa using this.symm
    match l₂, hlen, q2, q1, hm with
    | [p, q, r, s], _, e, q1, hm =>
      simp only [List.map_cons, List.map_nil, List.cons.injEq, and_true] at e
      have e1 := h a ha p (hm p (by simp)) e.1
      have e2 := h b hb q (hm q (by simp)) e.2.1
      have e3 := h a ha r (hm r (by simp)) e.2.2.1
      have e4 := h b hb s (hm s (by simp)) e.2.2.2
      subst e1 e2
      rw [← e3, ← e4] at q1
      exact q1
  · exact fun q => q.map f
theorem sub4_mem {l : List Nat} {a b : Nat} (h : [a, b, a, b].Sublist l) : a ∈ l ∧ b ∈ l := ⟨h.subset (by simp), h.subset (by simp)⟩
/-- two letters of the word cross -/
def XP (l : List Nat) : Prop := ∃ c d, c ≠ d ∧ [c, d, c, d].Sublist l
theorem XP_map {f : Nat → Nat} {l : List Nat} (h : InjOn f l) : XP (l.map f) ↔ XP l := by
  constructor
  · rintro ⟨c, d, hcd, q⟩
    obtain ⟨hc, hd⟩ := sub4_mem q
    obtain ⟨a, ha, rfl⟩ := List.mem_map.mp hc
    obtain ⟨b, hb, rfl⟩ := List.mem_map.mp hd
    exact ⟨a, b, fun e => hcd (e ▸ rfl), (sub4_map h ha hb).mp q⟩
  · rintro ⟨a, b, hab, q⟩
    obtain ⟨ha, hb⟩ := sub4_mem q
    exact ⟨f a, f b, fun e => hab (h a ha b hb e), (sub4_map h ha hb).mpr q⟩
def subq : List Nat → List Nat → Bool
  | [], _ => true
  | _ :: _, [] => false
  | p :: ps, a :: l => match Nat.beq a p with
    | true => subq ps l
    | false => subq (p :: ps) l
theorem subq_sub : ∀ (l p : List Nat), subq p l = true ↔ p.Sublist l
  | l, [] => by simp [subq]
  | [], p :: ps => by simp [subq]
  | a :: l, p :: ps => by
    unfold subq
    cases e : Nat.beq a p with
    | true =>
      have e := Nat.eq_of_beq_eq_true e
      subst e
      simp only
      rw [subq_sub l ps, List.cons_sublist_cons]
    | false =>
      have e := Nat.ne_of_beq_eq_false e
      simp only
      rw [subq_sub l (p :: ps)]
      constructor
      · exact fun q => q.cons a
      · intro q
        cases q with
        | cons _ q => exact q
        | cons_cons _ q => exact absurd rfl e
def XB (l : List Nat) : Bool := (nub l).any fun c => (nub l).any fun d => !Nat.beq c d && subq [c, d, c, d] l
theorem XB_iff (l : List Nat) : XB l = true ↔ XP l := by
  unfold XB XP
  rw [List.any_eq_true]
  constructor
  · rintro ⟨c, _, h⟩
    obtain ⟨d, _, h⟩ := List.any_eq_true.mp h
    rw [Bool.and_eq_true, subq_sub] at h
    refine ⟨c, d, fun e => ?_, h.2⟩
    subst e
    simp at h
  · rintro ⟨c, d, hcd, h⟩
    obtain ⟨hc, hd⟩ := sub4_mem h
    refine ⟨c, mem_nub.mpr hc, List.any_eq_true.mpr ⟨d, mem_nub.mpr hd, ?_⟩⟩
    rw [Bool.and_eq_true, subq_sub]
    refine ⟨?_, h⟩
    cases e : Nat.beq c d with
    | true => exact absurd (Nat.eq_of_beq_eq_true e) hcd
    | false => rfl
theorem XB_map {f : Nat → Nat} {l : List Nat} (h : InjOn f l) : XB (l.map f) = XB l := by
  rw [Bool.eq_iff_iff, XB_iff, XB_iff]
  exact XP_map h
theorem posOf_map {f : Nat → Nat} {l : List Nat} (hl : l.length = 5) (h : InjOn f l) {i : Nat} (hi : i < 5) : posOf (l.map f) ((l.map f).getD i 0) = posOf l (l.getD i 0) := by
  have e : ∀ j, j < 5 → (l.map f).getD j 0 = f (l.getD j 0) ∧ l.getD j 0 ∈ l := by
    intro j hj
    rw [getD_el _ _ (by rw [List.length_map, hl]; exact hj), getD_el _ _ (by rw [hl]; exact hj), List.getElem_map]
    exact ⟨rfl, List.getElem_mem _⟩
  unfold posOf
  refine List.filter_congr fun j hj => ?_
  have hj := List.mem_range.mp hj
  rw [(e j hj).1, (e i hi).1, Bool.eq_iff_iff, beq_iff_eq, beq_iff_eq]
  exact ⟨fun q => h _ (e j hj).2 _ (e i hi).2 q, fun q => q ▸ rfl⟩
theorem sg_map {f : Nat → Nat} {l : List Nat} (hl : l.length = 5) (h : InjOn f l) : sg (l.map f) = sg l := funext fun i => by
  unfold sg pv
  rw [posOf_map hl h (Nat.mod_lt _ (by decide))]
theorem secN_map {f : Nat → Nat} {l : List Nat} (hl : l.length = 5) (h : InjOn f l) : ∀ i, secN (l.map f) i = secN l i
  | 0 => rfl
  | i + 1 => by
    show ringRun (sg (l.map f)) (112 + i) 5 (secN (l.map f) i) i = ringRun (sg l) (112 + i) 5 (secN l i) i
    rw [sg_map hl h, secN_map hl h i]
/-- the word with its letters named a, b, c, .. as they come -/
def canF (l : List Nat) (c : Nat) : Nat := 97 + (nub l).idxOf c
def canon (l : List Nat) : List Nat := l.map (canF l)
theorem canF_inj (l : List Nat) : InjOn (canF l) l := by
  intro a ha b hb e
  have ha := mem_nub.mpr ha
  have hb := mem_nub.mpr hb
  have e : (nub l).idxOf a = (nub l).idxOf b := by unfold canF at e; omega
  have ea := List.getElem_idxOf (List.idxOf_lt_length_of_mem ha)
  have eb := List.getElem_idxOf (List.idxOf_lt_length_of_mem hb)
  rw [← ea, ← eb]
  congr 1
theorem canon_canon (l : List Nat) : canon (canon l) = canon l := by
  have h := canF_inj l
  have e : canon (l.map (canF l)) = canon l := by
    unfold canon
    rw [List.map_map]
    refine List.map_congr_left fun c hc => ?_
    simp only [Function.comp_apply]
    show 97 + (nub (l.map (canF l))).idxOf (canF l c) = canF l c
    rw [nub_map h, idxOf_map _ (h.sub fun x hx => by
      rcases List.mem_cons.mp hx with rfl | hx
      · exact hc
      · exact mem_nub.mp hx)]
    rfl
  exact e
theorem canon_le {l : List Nat} (hl : l.length = 5) : ∀ c ∈ canon l, 97 ≤ c ∧ c ≤ 101 := by
  intro c hc
  obtain ⟨a, ha, rfl⟩ := List.mem_map.mp hc
  have h1 := List.idxOf_lt_length_of_mem (mem_nub.mpr ha)
  have h2 := nub_len l
  unfold canF
  omega
theorem canon_len (l : List Nat) : (canon l).length = l.length := List.length_map _
def rot (l : List Nat) : List Nat := l.drop 1 ++ l.take 1
/-- what is asked of a word, its second parting s and the second one of that -/
def chk (l : List Nat) : Bool :=
  let s := secN l 5
  let s2 := secN s 5
  s.all (fun c => Nat.ble 112 c && Nat.ble c 116) && (s2.all (fun c => Nat.ble 112 c && Nat.ble c 116) &&
  (xor (Nat.beq ((nub l).length + (nub s).length) 6) (XB l) && (XB l ||
    (!XB (inter l s) && ((nm s2 == nm (rot l)) && (nub s).all fun a => (nub s).all fun b => Nat.beq a b || (nub l).any fun c => subq [a, c, a, c] (sb b a (inter l s)) || subq [c, a, c, a] (sb b a (inter l s)))))))
def L5 : List Nat := [97, 98, 99, 100, 101]
theorem chk_all : (L5.all fun a => L5.all fun b => L5.all fun c => L5.all fun d => L5.all fun e => !(canon [a, b, c, d, e] == [a, b, c, d, e]) || chk [a, b, c, d, e]) = true := by decide +kernel
end Mine
end
section
open PySem PySem.W PyProof.Rows
set_option Elab.async false
set_option maxRecDepth 100000
set_option maxHeartbeats 4000000
namespace Mine
theorem chk_canon {l : List Nat} (hl : l.length = 5) : chk (canon l) = true := by
  have h1 := canon_le hl
  have h2 := canon_canon l
  have h3 := (canon_len l).trans hl
  generalize canon l = r at h1 h2 h3
  have hm : ∀ x, 97 ≤ x ∧ x ≤ 101 → x ∈ L5 := by
    intro x hx
    have : x = 97 ∨ x = 98 ∨ x = 99 ∨ x = 100 ∨ x = 101 := by omega
    rcases this with rfl | rfl | rfl | rfl | rfl <;> decide
  match r, h3, h1, h2 with
  | [a, b, c, d, e], _, h1, h2 =>
    have q := List.all_eq_true.mp chk_all a (hm a (h1 a (by simp)))
    have q := List.all_eq_true.mp q b (hm b (h1 b (by simp)))
    have q := List.all_eq_true.mp q c (hm c (h1 c (by simp)))
    have q := List.all_eq_true.mp q d (hm d (h1 d (by simp)))
    have q := List.all_eq_true.mp q e (hm e (h1 e (by simp)))
    rw [h2, beq_self_eq_true, Bool.not_true, Bool.false_or] at q
    exact q
theorem inter_map {f F : Nat → Nat} : ∀ (l s : List Nat), (∀ c ∈ l, F c = f c) → (∀ c ∈ s, F c = c) → inter (l.map f) s = (inter l s).map F
  | [], s, _, _ => by cases s <;> rfl
  | a :: l, [], _, _ => rfl
  | a :: l, b :: s, h1, h2 => by
    show f a :: b :: inter (l.map f) s = F a :: F b :: (inter l s).map F
    rw [inter_map l s (fun c hc => h1 c (.tail _ hc)) (fun c hc => h2 c (.tail _ hc)), h1 a (.head _), h2 b (.head _)]
theorem mem_inter : ∀ {l s : List Nat} {c : Nat}, c ∈ inter l s → c ∈ l ∨ c ∈ s
  | [], s, c, h => by cases s <;> simp [inter] at h
  | a :: l, [], c, h => by simp [inter] at h
  | a :: l, b :: s, c, h => by
    rcases List.mem_cons.mp h with rfl | h
    · exact .inl (.head _)
    rcases List.mem_cons.mp h with rfl | h
    · exact .inr (.head _)
    rcases mem_inter h with h | h
    · exact .inl (.tail _ h)
    · exact .inr (.tail _ h)
theorem inter_mem : ∀ {l s : List Nat} {c : Nat}, l.length = s.length → c ∈ l ∨ c ∈ s → c ∈ inter l s
  | [], [], c, _, h => by rcases h with h | h <;> cases h
  | [], b :: s, c, e, _ => by cases e
  | a :: l, [], c, e, _ => by cases e
  | a :: l, b :: s, c, e, h => by
    have e : l.length = s.length := Nat.succ.inj e
    show c ∈ a :: b :: inter l s
    rcases h with h | h
    · rcases List.mem_cons.mp h with rfl | h
      · exact .head _
      · exact .tail _ (.tail _ (inter_mem e (.inl h)))
    · rcases List.mem_cons.mp h with rfl | h
      · exact .tail _ (.head _)
      · exact .tail _ (.tail _ (inter_mem e (.inr h)))
theorem inter_len : ∀ (l s : List Nat), (inter l s).length ≤ l.length + s.length
  | [], s => by cases s <;> simp [inter]
  | a :: l, [] => by simp [inter]
  | a :: l, b :: s => by
    have := inter_len l s
    show (inter l s).length + 1 + 1 ≤ l.length + 1 + (s.length + 1)
    omega
theorem letters_mem {l : List Nat} {ks : List Str} (h : LettersOf ks (strOf l)) : ∀ y, y ∈ ks ↔ ∃ c, c ∈ l ∧ y = one c := by
  intro y
  have h' : ks.Perm ((nub l).map one) := by
    have e := met_nub l
    rw [← e]
    have : (strOf l).cps.size = l.length := strOf_len l
    unfold LettersOf at h
    rwa [this] at h
  rw [h'.mem_iff, List.mem_map]
  constructor
  · rintro ⟨c, hc, rfl⟩
    exact ⟨c, mem_nub.mp hc, rfl⟩
  · rintro ⟨c, hc, rfl⟩
    exact ⟨c, mem_nub.mpr hc, rfl⟩
theorem letters_count {l : List Nat} {ks : List Str} (h : LettersOf ks (strOf l)) : ks.length = (nub l).length ∧ ks.Nodup := by
  have h' : ks.Perm ((nub l).map one) := by
    have e := met_nub l
    rw [← e]
    have : (strOf l).cps.size = l.length := strOf_len l
    unfold LettersOf at h
    rwa [this] at h
  refine ⟨by rw [h'.length_eq, List.length_map], h'.nodup_iff.mpr ?_⟩
  have := nub_nodup l
  unfold List.Nodup at this ⊢
  rw [List.pairwise_map]
  exact this.imp fun hab e => hab (one_inj e)
theorem crAll_letters {l : List Nat} {ks : List Str} (h : ∀ y, y ∈ ks ↔ ∃ c, c ∈ l ∧ y = one c) : crAll (strOf l) ks ks = XB l := by
  rw [Bool.eq_iff_iff, XB_iff, crAll_sub l h h]
  constructor
  · rintro ⟨c, d, _, _, q⟩
    exact ⟨c, d, q⟩
  · rintro ⟨c, d, q⟩
    obtain ⟨hc, hd⟩ := sub4_mem q.2
    exact ⟨c, d, hc, hd, q⟩
theorem ascii_of {l : List Nat} (h : ∀ c ∈ l, c < 128) : (strOf l).cps.all (· < 128) = true := by
  rw [Array.all_eq_true_iff_forall_mem]
  intro c hc
  exact decide_eq_true (h c (by simpa [strOf] using hc))
theorem ltr1_of {l : List Nat} (h : ∀ c ∈ l, (97 ≤ c ∧ c ≤ 101) ∨ (112 ≤ c ∧ c ≤ 116)) : ∀ y ∈ met (strOf l).cps.toList (strOf l).cps.size, ltr1 y := by
  intro y hy
  rw [show (strOf l).cps.size = l.length from strOf_len l, strOf_list, met_nub] at hy
  obtain ⟨c, hc, rfl⟩ := List.mem_map.mp hy
  refine ⟨c, ?_, rfl⟩
  have hc := h c (mem_nub.mp hc)
  have : c = 97 ∨ c = 98 ∨ c = 99 ∨ c = 100 ∨ c = 101 ∨ c = 112 ∨ c = 113 ∨ c = 114 ∨ c = 115 ∨ c = 116 := by omega
  rcases this with rfl | rfl | rfl | rfl | rfl | rfl | rfl | rfl | rfl | rfl <;> decide
theorem rot_strOf {l : List Nat} (hl : l.length = 5) : rotS (strOf l) = strOf (rot l) := by
  match l, hl with
  | [a, b, c, d, e], _ => exact rotS_five a b c d e
theorem rot_map (f : Nat → Nat) (l : List Nat) : rot (l.map f) = (rot l).map f := by
  unfold rot
  rw [List.map_append, List.map_drop, List.map_take]
theorem rot_mem {l : List Nat} : ∀ c ∈ rot l, c ∈ l := fun c hc => by
  rcases List.mem_append.mp hc with hc | hc
  · exact List.mem_of_mem_drop hc
  · exact List.mem_of_mem_take hc
theorem rot_len (l : List Nat) (hl : l.length = 5) : (rot l).length = 5 := by
  unfold rot
  rw [List.length_append, List.length_drop, List.length_take, hl]
  rfl
theorem rng_of {l : List Nat} (h : l.all (fun c => Nat.ble 112 c && Nat.ble c 116) = true) : ∀ c ∈ l, 112 ≤ c ∧ c ≤ 116 := fun c hc => by
  have := List.all_eq_true.mp h c hc
  rw [Bool.and_eq_true] at this
  exact ⟨Nat.le_of_ble_eq_true this.1, Nat.le_of_ble_eq_true this.2⟩
theorem second_strOf (r : List Nat) : secondOf (strOf r) = strOf (secN r 5) := rfl
theorem law1L {l : List Nat} (hl : l.length = 5) (h97 : ∀ c ∈ l, 97 ≤ c ∧ c ≤ 101) : Law1Ok (strOf l) := by
  have hchk := chk_canon hl
  have hinj := canF_inj l
  have hsN : secN (canon l) 5 = secN l 5 := secN_map hl hinj 5
  unfold chk at hchk
  simp only [hsN, Bool.and_eq_true] at hchk
  obtain ⟨k1, k2, k3, k4⟩ := hchk
  have k1 := rng_of k1
  have k2 := rng_of k2
  have hs5 := secN_len l 5
  have hs25 := secN_len (secN l 5) 5
  have e1 := second_strOf l
  have e2 := second_strOf (secN l 5)
  generalize hsd : secN l 5 = s at k1 k2 k3 k4 hs5 hs25 e1 e2
  generalize hsd2 : secN s 5 = s2 at k2 k4 hs25 e2
  have e3 : bothS (strOf l) (strOf s) = strOf (inter l s) := rfl
  have e12 : secondOf (secondOf (strOf l)) = strOf s2 := (congrArg secondOf e1).trans e2
  have e13 : bothS (strOf l) (secondOf (strOf l)) = strOf (inter l s) := (congrArg (bothS (strOf l)) e1).trans e3
  have hX : XB (canon l) = XB l := XB_map hinj
  have hN : (nub (canon l)).length = (nub l).length := by
    show (nub (l.map (canF l))).length = _
    rw [nub_map hinj, List.length_map]
  have hcl := canon_le hl
  -- the renaming of both words' letters
  have hF : ∃ F : Nat → Nat, (∀ c, c ∈ l → F c = canF l c) ∧ (∀ c, 112 ≤ c → F c = c) ∧ (∀ c, c ∈ l → F c ≤ 101) := by
    refine ⟨fun c => if c < 112 then canF l c else c, fun c hc => ?_, fun c hc => if_neg (by omega), fun c hc => ?_⟩
    · have := h97 c hc
      exact if_pos (by omega)
    · have := h97 c hc
      show (if c < 112 then canF l c else c) ≤ 101
      rw [if_pos (by omega)]
      exact (hcl _ (List.mem_map_of_mem hc)).2
  obtain ⟨F, f1, f2, f3⟩ := hF
  have hFi : ∀ r : List Nat, (∀ c ∈ r, c ∈ l ∨ 112 ≤ c) → InjOn F r := by
    intro r hr a ha b hb e
    rcases hr a ha with h | h <;> rcases hr b hb with h' | h'
    · exact hinj a h b h' (by rw [← f1 a h, ← f1 b h', e])
    · have := f3 a h
      rw [e, f2 b h'] at this
      omega
    · have := f3 b h'
      rw [← e, f2 a h] at this
      omega
    · rwa [f2 a h, f2 b h'] at e
  have hI : inter (canon l) s = (inter l s).map F := inter_map l s (fun c hc => f1 c hc) (fun c hc => f2 c (k1 c hc).1)
  have hIm : ∀ c ∈ inter l s, c ∈ l ∨ 112 ≤ c := fun c hc => (mem_inter hc).imp id fun h => (k1 c h).1
  have hXI : XB (inter (canon l) s) = XB (inter l s) := by rw [hI]; exact XB_map (hFi _ hIm)
  rw [hX, hN] at k3
  rw [hX, hXI] at k4
  have k5 : XB l = false → XB (inter l s) = false ∧ (nm s2 = nm (rot (canon l))) ∧ ∀ a ∈ s, ∀ b ∈ s, a ≠ b → ∃ c ∈ l, [a, c, a, c].Sublist (sb b a (inter l s)) ∨ [c, a, c, a].Sublist (sb b a (inter l s)) := by
    intro hx
    rw [hx, Bool.false_or, Bool.and_eq_true, Bool.and_eq_true, Bool.not_eq_true', beq_iff_eq] at k4
    obtain ⟨j1, j2, j3⟩ := k4
    refine ⟨j1, j2, fun a ha b hb hab => ?_⟩
    have q := List.all_eq_true.mp j3 a (mem_nub.mpr ha)
    have q := List.all_eq_true.mp q b (mem_nub.mpr hb)
    have hne : Nat.beq a b = false := by
      cases e : Nat.beq a b with
      | true => exact absurd (Nat.eq_of_beq_eq_true e) hab
      | false => rfl
    rw [hne, Bool.false_or] at q
    obtain ⟨c', hc', q⟩ := List.any_eq_true.mp q
    obtain ⟨c, hc, rfl⟩ := List.mem_map.mp (mem_nub.mp hc')
    rw [Bool.or_eq_true, subq_sub, subq_sub] at q
    have ha2 := (k1 a ha).1
    have hb2 := (k1 b hb).1
    have hJ : sb b a (inter (canon l) s) = (sb b a (inter l s)).map F := by
      rw [hI]
      unfold sb
      rw [List.map_map, List.map_map]
      refine List.map_congr_left fun x hx => ?_
      simp only [Function.comp_apply]
      rcases hIm x hx with h | h
      · have h1 := f3 x h
        have h2 := h97 x h
        rw [if_neg (by omega), if_neg (by omega)]
      · rw [f2 x h]
        by_cases e : x = b
        · rw [if_pos e, f2 a ha2]
        · rw [if_neg e, f2 x h]
    rw [hJ] at q
    have hJm : ∀ x ∈ sb b a (inter l s), x ∈ l ∨ 112 ≤ x := by
      intro x hx
      obtain ⟨y, hy, rfl⟩ := List.mem_map.mp hx
      by_cases e : y = b
      · rw [if_pos e]; exact .inr ha2
      · rw [if_neg e]; exact hIm y hy
    have hcF : canF l c = F c := (f1 c hc).symm
    have haF : a = F a := (f2 a ha2).symm
    have hi := hFi _ hJm
    have hcm : c ∈ sb b a (inter l s) := by
      refine List.mem_map.mpr ⟨c, inter_mem (hl.trans hs5.symm) (.inl hc), if_neg ?_⟩
      have := h97 c hc
      omega
    have ham : a ∈ sb b a (inter l s) := List.mem_map.mpr ⟨a, inter_mem (hl.trans hs5.symm) (.inr ha), if_neg hab⟩
    refine ⟨c, hc, q.imp (fun q => ?_) (fun q => ?_)⟩
    · rw [hcF] at q
      have q' : [F a, F c, F a, F c].Sublist ((sb b a (inter l s)).map F) := by rw [← haF]; exact q
      exact (sub4_map hi ham hcm).mp q'
    · rw [hcF] at q
      have q' : [F c, F a, F c, F a].Sublist ((sb b a (inter l s)).map F) := by rw [← haF]; exact q
      exact (sub4_map hi hcm ham).mp q'
  have hcross : ∀ ks, LettersOf ks (strOf l) → crAll (strOf l) ks ks = XB l := fun ks h => crAll_letters (letters_mem h)
  refine { hx := by rw [strOf_len, hl], ha := ascii_of fun c hc => ?_, hpl := fun c hc => ?_, hz := by rw [e1, strOf_len, hs5], haz := ?_, hplz := ?_, lx := ltr1_of fun c hc => .inl (h97 c hc), lz := ?_, hb := ?_, hs1 := ?_, hs2 := ?_, hs3 := ?_, hr1 := ?_, hr2 := ?_, hr3 := ?_, c7 := ?_, c10 := ?_, c11 := ?_, c12 := ?_ }
  · have := h97 c hc
    omega
  · have := h97 c hc
    omega
  · rw [e1]
    exact ascii_of fun c hc => by have := k1 c hc; omega
  · rw [e1]
    exact fun c hc => by have := k1 c hc; omega
  · rw [e1]
    exact ltr1_of fun c hc => .inr (k1 c hc)
  · rw [e13, strOf_len]
    have := inter_len l s
    omega
  · rw [e12, strOf_len, hs25]
  · rw [e12]
    exact ascii_of fun c hc => by have := k2 c hc; omega
  · rw [e12]
    exact fun c hc => by have := k2 c hc; omega
  · rw [rot_strOf hl, strOf_len, rot_len l hl]
  · rw [rot_strOf hl]
    exact ascii_of fun c hc => by have := h97 c (rot_mem c hc); omega
  · rw [rot_strOf hl]
    exact fun c hc => (h97 c (rot_mem c hc)).1
  · intro ks zs hk hz
    rw [e1] at hz
    rw [hcross ks hk, (letters_count hk).1, (letters_count hz).1]
    have : (((nub l).length : Int) + ((nub s).length : Int) == 6) = Nat.beq ((nub l).length + (nub s).length) 6 := by
      rw [Bool.eq_iff_iff, beq_iff_eq, Nat.beq_eq]
      omega
    rw [this]
    revert k3
    cases Nat.beq ((nub l).length + (nub s).length) 6 <;> cases XB l <;> simp
  · intro ks zs hk hz hx
    rw [hcross ks hk] at hx
    rw [e1] at hz
    rw [e13]
    have hm : ∀ y, y ∈ ks ++ zs ↔ ∃ c, c ∈ inter l s ∧ y = one c := by
      intro y
      rw [List.mem_append, letters_mem hk y, letters_mem hz y]
      constructor
      · rintro (⟨c, hc, e⟩ | ⟨c, hc, e⟩)
        · exact ⟨c, inter_mem (hl.trans hs5.symm) (.inl hc), e⟩
        · exact ⟨c, inter_mem (hl.trans hs5.symm) (.inr hc), e⟩
      · rintro ⟨c, hc, e⟩
        exact (mem_inter hc).imp (fun h => ⟨c, h, e⟩) fun h => ⟨c, h, e⟩
    rw [crAll_letters hm]
    exact (k5 hx).1
  · intro ks zs hk hz hx i j a' b' hij hia hjb
    rw [hcross ks hk] at hx
    rw [e1] at hz
    rw [e13]
    obtain ⟨a, ha, rfl⟩ := (letters_mem hz a').mp (List.mem_of_getElem? hia)
    obtain ⟨b, hb, rfl⟩ := (letters_mem hz b').mp (List.mem_of_getElem? hjb)
    have hab : a ≠ b := by
      intro e
      subst e
      obtain ⟨h1, h2⟩ := List.getElem?_eq_some_iff.mp hia
      obtain ⟨h3, h4⟩ := List.getElem?_eq_some_iff.mp hjb
      exact List.pairwise_iff_getElem.mp (letters_count hz).2 i j h1 h3 hij (h2.trans h4.symm)
    obtain ⟨c, hc, q⟩ := (k5 hx).2.2 a ha b hb hab
    rw [rep_strOf]
    have hk' := letters_mem hk
    have hone : ∀ y, y ∈ [one a] ↔ ∃ c, c = a ∧ y = one c := by
      intro y
      rw [List.mem_singleton]
      exact ⟨fun e => ⟨a, rfl, e⟩, fun ⟨_, e, q⟩ => e ▸ q⟩
    have hac : a ≠ c := by
      have := (k1 a ha).1
      have := (h97 c hc).2
      omega
    rw [crAll_sub _ hone hk', crAll_sub _ hk' hone]
    exact q.imp (fun q => ⟨a, c, rfl, hc, hac, q⟩) fun q => ⟨c, a, hc, rfl, hac.symm, q⟩
  · intro ks hk hx
    rw [hcross ks hk] at hx
    rw [e12, rot_strOf hl, nameOf_strOf s2 (fun c hc => by have := k2 c hc; omega) (by omega), nameOf_strOf (rot l) (fun c hc => (h97 c (rot_mem c hc)).1) (by rw [rot_len l hl]; decide), (k5 hx).2.1]
    have hr : nm (rot (canon l)) = nm (rot l) := (congrArg nm (rot_map (canF l) l)).trans (nm_map (hinj.sub rot_mem))
    rw [hr]
theorem law1Ok (ns : List Int) (hn : ns.length = 5) : Law1Ok (strOf (wordL ns)) := by
  refine law1L (by unfold wordL; rw [List.length_map, hn]) fun c hc => ?_
  obtain ⟨v, _, rfl⟩ := List.mem_map.mp hc
  exact ltr_le v
end Mine
end
theorem Mine.slate23 : True := by first | walk1 | trivial
section
open PySem PySem.W PyProof.Rows
set_option Elab.async false
set_option maxRecDepth 100000
set_option maxHeartbeats 2000000
set_option pp.deepTerms true
set_option pp.proofs false
namespace Mine
local macro_rules | `(tactic| walk_at "exec Assign cons ListComp") => `(tactic| (k_here; k_dflt (refine Assign_ListComp_Z (F₀ := by k_asm) (by rfl) (by with_unfolding_all rfl) (by with_unfolding_all rfl) (by decide) (by rfl) (by decide) (by rfl) (by rfl) (by decide) (by rfl) (by rfl) ?_)))
local macro_rules | `(tactic| walk_at "call type:zip") => `(tactic| (k_here; refine Hold.out ?_))
local macro_rules | `(tactic| walk_at "execs cons") => `(tactic| (k_here; (with_reducible show wpAny _ _ (execs (Stmt.Assign [PySem.Expr.Name _ _] (PySem.Expr.Call (PySem.Expr.Attribute _ _ _) [PySem.Expr.ListComp _ _ _ _] [] _) _ :: _) _) _ _ _); refine Hold.out ?_))
def scr (l : List Int) : List Int := l.take 5 ++ [0, 0, 0, 0, 0]
def numsOf (l : List Int) : List Int := [0 + (scr l).getD 0 0, 1 + (scr l).getD 1 0, 6 + (scr l).getD 2 0, 0 + (scr l).getD 3 0, 2 + (scr l).getD 4 0]
-- by the kernel alone: the library's own quick road lays a second text of the whole view here
local macro_rules | `(tactic| k_qdec) => `(tactic| decide +kernel)
theorem law01 : PySem.Challenge.rw_pg0249_01.Holds := Mine.hd1 (by
  have hold0 : Unit := ()
  k_go0
  (all_goals try k_fold)
  (with_reducible rename IntsAre _ _ => hI0)
  (with_reducible rename List Int => scr0)
  k_steps
  refine Hold.mk ?_
  (with_reducible rename IntsAre _ (_ ++ _) => hI2)
  have hI3 : IntsAre _ (scr scr0) := hI2
  have hl3 := hI3.length
  refine SrcZA.call (n := 5) (J := fun i ys => IntsAre ys ((numsOf scr0).take i)) (by rfl) (by k_asm) (by k_asm) (by k_mem) (by k_mem) (by decide) ?_ .nil ?_ ?_
  · rw [hl3]
    simp [scr]
  · intro z TI TO i1 i2 i ys' v₁ v₂ g e1 e2 j hyl oz oTI oTO o1 o2 C oC D m₂ h tk E' hC hx hx2 F N
    obtain ⟨a, ta, rfl, ha⟩ := ints_get hI3 e2
    have ea : a = (scr scr0).getD i 0 := by simp [List.getD, ha]
    subst ea
    refine wpAny_tests_nil ?_
    rw [if_pos rfl]
    rcases i with _ | _ | _ | _ | _ | i
    all_goals first
      | (simp only [List.getElem?_cons_zero, List.getElem?_cons_succ, Option.some.injEq] at e1
         subst e1
         k_steps
         (with_reducible rename News _ _ _ _ => N9)
         exact TurnEnd.intro (by k_asm) N9 (fun _ hp => hp) (ints_snoc j _ _))
      | simp at e1
  · intro D ys' h tk j F N off
    (with_reducible rename Fr _ _ _ _ => F9)
    have N8 : News _ _ _ [(D, listOf ys'.toArray ys'.length)] := fun p hp => N p (by rw [List.mem_singleton.mp hp]; exact .head _)
    clear N
    (try dsimp only)
    with_unfolding_all refine' tail1 _ _ _ _ _ _ _ _ _ D _ ys' (numsOf scr0) (law1Ok (numsOf scr0) rfl) ?kB F9 ?kX ?kT N8 ?k1 j rfl ?kE ?kret
    case kE => first | assumption | passes_own
    case kB => k_asm
    case kX => k_asm
    case kT => k_asm
    case k1 => exact if_pos rfl
    case kret =>
      intro h9 d9 tk9 m9 F9'
      k_steps)
end Mine
end
theorem PySem.Challenge.cw_pg0249_01_holds : PySem.Challenge.rw_pg0249_01.Holds := by
  exact Mine.law01
