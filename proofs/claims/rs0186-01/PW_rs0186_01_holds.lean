import PyProof.Rows.All
import Wide.All
import OpenK.AllK
import Wide.FinOn
import PySem.Challenge.RW_rs0186_01
set_option Elab.async false
section STop1
open PySem PySem.W PyProof.Rows
namespace Mine
noncomputable abbrev loose9 : List Str := [Str.ofString "_DIV_LIMIT", Str.ofString "_div2n1n", Str.ofString "_div3n2n", Str.ofString "_int2digits", Str.ofString "_digits2int", Str.ofString "_divmod_pos", Str.ofString "int_divmod", Str.ofString "_iter_escaped_chars", Str.ofString "_strip_quoted_realnames", Str.ofString "LPAR", Str.ofString "RPAR", Str.ofString "LSQB", Str.ofString "RSQB", Str.ofString "COLON", Str.ofString "COMMA", Str.ofString "SEMI", Str.ofString "PLUS", Str.ofString "MINUS", Str.ofString "STAR", Str.ofString "SLASH", Str.ofString "VBAR", Str.ofString "AMPER", Str.ofString "LESS", Str.ofString "GREATER", Str.ofString "EQUAL", Str.ofString "DOT", Str.ofString "PERCENT", Str.ofString "LBRACE", Str.ofString "RBRACE", Str.ofString "EQEQUAL", Str.ofString "NOTEQUAL", Str.ofString "LESSEQUAL", Str.ofString "GREATEREQUAL", Str.ofString "TILDE", Str.ofString "CIRCUMFLEX", Str.ofString "LEFTSHIFT", Str.ofString "RIGHTSHIFT", Str.ofString "DOUBLESTAR", Str.ofString "PLUSEQUAL", Str.ofString "MINEQUAL", Str.ofString "STAREQUAL", Str.ofString "SLASHEQUAL", Str.ofString "PERCENTEQUAL", Str.ofString "AMPEREQUAL", Str.ofString "VBAREQUAL", Str.ofString "CIRCUMFLEXEQUAL", Str.ofString "LEFTSHIFTEQUAL", Str.ofString "RIGHTSHIFTEQUAL", Str.ofString "DOUBLESTAREQUAL", Str.ofString "DOUBLESLASH", Str.ofString "DOUBLESLASHEQUAL", Str.ofString "AT", Str.ofString "ATEQUAL", Str.ofString "RARROW", Str.ofString "ELLIPSIS", Str.ofString "COLONEQUAL", Str.ofString "EXCLAMATION", Str.ofString "NT_OFFSET", Str.ofString "EXACT_TOKEN_TYPES", Str.ofString "ISNONTERMINAL", Str.ofString "_law_draw", Str.ofString "_law_write", Str.ofString "_law_symbols", Str.ofString "_law_deeds", Str.ofString "_law_done", Str.ofString "_law_whole"]
noncomputable def mkView (st : Stmt) (_ : PySem.Challenge.pw_rs0186_01.main.body[70]? = some st) : Program := { PySem.Challenge.pw_rs0186_01 with main := { PySem.Challenge.pw_rs0186_01.main with body := [st] } }
/-- a view with the law's def alone: all that is called is known by its place -/
noncomputable def view9 : Program := mkView _ rfl
theorem left_boot {p q : Program} {loose : List Str} {Xt : Shared → Bool} {α : Type} {Yf : Shared → α} {Ya : World → α} {N : Nat} {g0 : Bool}
    (o : ∀ w : World, (fencedOpening treeTable p w N).map (fun s => (s.heap, s.gens, s.drawn, s.toks)) = some (boot_heap w.params, Array.mk [], boot_drawn, boot_toks))
    (h : ∀ (w : World), (fun os => (topFrom treeTable p w N ⟨boot_heap w.params, Array.mk [], boot_drawn, boot_toks, os⟩).map (fun s => (openSeen q loose (importedModules p.main.body) Xt g0 s, Yf s))) = fun _ => some (openGood q loose, Ya w)) : LeftO p q loose Xt Yf Ya N g0 := fun w => by
  obtain ⟨s, e, e'⟩ := Option.map_eq_some_iff.mp (o w)
  obtain ⟨a, b, c, d, os⟩ := s
  obtain ⟨rfl, rfl, rfl, rfl⟩ : a = boot_heap w.params ∧ b = Array.mk [] ∧ c = boot_drawn ∧ d = boot_toks := by simpa using e'
  unfold openEnds
  rw [e]
  exact congrFun (h w) os
theorem opening9 : ∀ w : World, (fencedOpening treeTable PySem.Challenge.rw_rs0186_01.row.prog w 4120).map (fun s => (s.heap, s.gens, s.drawn, s.toks)) = some (boot_heap w.params, Array.mk [], boot_drawn, boot_toks) :=
  boot_open (by kernel_rfl) (by decide) (fun s => by kernel_rfl)
theorem said9 : PySem.Challenge.rw_rs0186_01.wellSaid = true := by kernel_rfl
theorem keepK (H : Hook) {p q : Prop} (_ : q) (h : H = H → p) : p := h rfl
set_option hygiene false in
local macro_rules | `(tactic| o_law) => `(tactic| refine holds_law said9 fun said => ?_)
set_option hygiene false in
local macro_rules | `(tactic| o_head $H) => `(tactic| refine keepK $H (q := PySem.Challenge.rw_rs0186_01.row.toRowW.promised) ?hw ?hc)
set_option maxRecDepth 1000000 in
set_option maxHeartbeats 1000000 in
open_top hd for PySem.Challenge.rw_rs0186_01
end Mine
end STop1
section SCore
open PySem PySem.W PyProof.Rows PySem.Calls PySem.Spec
namespace Mine

/-- the facts that a call meets: the activation record of a caller -/
noncomputable abbrev at_ (dp un : Nat) (gd : Option (List Code)) (env : Env) (outer : List Env) : Around :=
  { handled := none, depth := dp, frames := some (env :: outer), guards := gd, units := un }

/-- everything that stood and was not lent stays -/
noncomputable def Kept (need : List (Addr × Obj)) (h h' : Heap) : Prop := ∀ b o, b ∉ need.map (·.1) → h.get? b = some o → h'.get? b = some o
/-- what is handed back was lent, or is new -/
noncomputable def Fresh (need : List (Addr × Obj)) (h : Heap) (news : List (Addr × Obj)) : Prop := ∀ q ∈ news, q.1 ∈ need.map (·.1) ∨ h.get? q.1 = none

noncomputable abbrev tupObj (vs : List Value) : Obj := { cls := .type "tuple", data := .seq vs.toArray }
noncomputable abbrev lstObj (vs : List Value) (n : Nat) : Obj := { cls := .type "list", data := .seq vs.toArray n }

noncomputable def Done (g : Heap) (L' : Addr) (s : Shared) (P : Value → List (Addr × Obj) → Prop) (f : Flow) (s' : Shared) : Prop :=
  ∃ h' tk m' news', s' = { s with heap := h', toks := tk } ∧ Fr g L' h' m' ∧ News g L' h' news' ∧ P (match f with | .ret v => v | _ => .none) news'

noncomputable abbrev noErr : Value → Shared → Prop := fun _ _ => False

section
variable {prog : Program} {w : World} {p : Program} {loose : List Str} {mean : ExcName → Option Value} {mg mb : Str → Option Value} {K : Frag}
  {A A₀ : Around} {base h₀ : Heap} {L : Addr} {m : Str → Option Value} {need : List (Addr × Obj)} {s : Shared} {env : Env} {outer : List Env}
  {Q E : Value → Shared → Prop} {P : Value → List (Addr × Obj) → Prop}

theorem lend (N : News h₀ L s.heap need) : ∀ b o, b ∉ need.map (·.1) → s.heap.get? b = some o → (hideAll s.heap (need.map (·.1))).get? b = some o :=
  fun _ _ hb e => hideAll_get _ e hb

theorem took {g : Heap} {L' : Addr} {h' : Heap} {m' : Str → Option Value} {news' : List (Addr × Obj)} (hg : g = hideAll s.heap (need.map (·.1))) (F' : Fr g L' h' m') (N' : News g L' h' news') :
    Kept need s.heap h' ∧ Fresh need s.heap news' := by
  subst hg
  refine ⟨fun b o hb e => F'.keep b o (hideAll_get _ e hb), fun q hq => ?_⟩
  by_cases hm : q.1 ∈ need.map (·.1)
  · exact .inl hm
  · refine .inr ?_
    cases e : s.heap.get? q.1 with
    | none => rfl
    | some o =>
      have := (N' q hq).2.2
      rw [hideAll_get _ e hm] at this; cases this

theorem call_need {name qual : Str} {params : Arguments} {body : List Stmt} {scope : Scope} {dV kV doc pm cdv ct oc : Value} {an od : Option Addr} {osl : Array (Option Value)} {f : Addr} {args : List Value} {binds : List (Str × Value)}
    (B : Below A₀ base outer h₀) (F : Fr h₀ L s.heap m) (X : K.In h₀) (N : News h₀ L s.heap need) (T : Top p loose mean mg mb h₀) (hA : A.frames = some (env :: outer)) (hf : env.frame = some L) (hke : env.scope.kind = .function)
    (hroom : A.depth < recursionLimit)
    (ho : K.lookup f = some ⟨oc, od, .func (fnOf name qual params body scope dV kV doc pm an cdv ct), osl⟩) (hcd : codeIn K cdv qual = true)
    (hbind : bindArgs (fnOf name qual params body scope dV kV doc pm an cdv ct) ⟨args, []⟩ = pure binds) (hloc : (binds.all fun x => decide (scope.names.lookup x.1 = some .local)) = true)
    (hco : scope.isCoroutine = false) (hgen : scope.isGenerator = false) (hk : scope.kind = .function) (hcell : ∀ x ∈ scope.names, x.2 ≠ .cell)
    (hret : ∀ v h' tk news', P v news' → Fr h₀ L h' m → News h₀ L h' news' → Kept need s.heap h' → Fresh need s.heap news' → Q v { s with heap := h', toks := tk })
    (h : ∀ g L' h₁ tk, Kept need s.heap g → (∀ q ∈ need, q.1 < L') → Fr g L' h₁ (fun y => binds.reverse.lookup y) → News g L' h₁ need → Below A base (env :: outer) g → K.In g → Top p loose mean mg mb g →
      wpAny (model prog w) (A.deeper (envOf qual scope L' f cdv)) (execs body (envOf qual scope L' f cdv)) (Done g L' s P) noErr { s with heap := h₁, toks := tk }) :
    wpAny (model prog w) A (call (.ref f) args) Q E s := by
  refine wpAny_call ?_
  obtain ⟨FG, BG, st, lv⟩ := groundX (R := fun r s' => match r with | .ok (.ret v) => Q v s' | .ok _ => False | .error e => E e s') B F N hA hf hke
  refine codeAny_call_def (fd := fnOf name qual params body scope dV kV doc pm an cdv ct) (body := body) (binds := binds) hroom ((X.keeps F.keep) _ _ ho) rfl (T.nolimit.keeps F.keep) (codeRec_of (X.keeps F.keep) hcd) rfl (.of_eq hbind) hcell (locs hloc) (fun h₁ hns hk₁ => ?_) hco hgen hk
  refine wpAny_mono (h _ s.heap.objs.size h₁ _ (lend N) (fun q hq => Heap.lt_size (N q hq).1) ⟨hns, fun b o e => hk₁ b o (of_hideAll _ e), Nat.le_of_eq (hideAll_size _ _)⟩
    (fun q hq => ⟨hk₁ _ _ (N q hq).1, Nat.ne_of_lt (Heap.lt_size (N q hq).1), hideAll_none _ (List.mem_map_of_mem hq)⟩) BG (X.keeps st) (T.keeps st)) (fun fl s' hl => ?_) fun _ _ y => y.elim
  obtain ⟨h', tk, m', news', rfl, F', N', hP⟩ := hl
  have tk' := took rfl F' N'
  exact lv _ _ (leaveK_ F' N' fun FF NN => hret _ h' tk news' hP FF NN tk'.1 tk'.2)

theorem call_cells_need {name qual : Str} {params : Arguments} {body : List Stmt} {scope : Scope} {dV kV doc pm cdv ct oc : Value} {an od : Option Addr} {osl : Array (Option Value)} {f : Addr} {args : List Value} {binds : List (Str × Value)}
    (B : Below A₀ base outer h₀) (F : Fr h₀ L s.heap m) (X : K.In h₀) (N : News h₀ L s.heap need) (T : Top p loose mean mg mb h₀) (hA : A.frames = some (env :: outer)) (hf : env.frame = some L) (hke : env.scope.kind = .function)
    (hroom : A.depth < recursionLimit)
    (ho : K.lookup f = some ⟨oc, od, .func (fnOf name qual params body scope dV kV doc pm an cdv ct), osl⟩) (hcd : codeIn K cdv qual = true)
    (hbind : bindArgs (fnOf name qual params body scope dV kV doc pm an cdv ct) ⟨args, []⟩ = pure binds)
    (hkind : (binds.all fun y => scope.names.lookup y.1 == some .local || scope.names.lookup y.1 == some .cell) = true)
    (hnd : ((cellsFrom 0 scope.names []).map (·.1)).Nodup)
    (hco : scope.isCoroutine = false) (hgen : scope.isGenerator = false) (hk : scope.kind = .function)
    (hret : ∀ v h' tk news', P v news' → Fr h₀ L h' m → News h₀ L h' news' → Kept need s.heap h' → Fresh need s.heap news' → Q v { s with heap := h', toks := tk })
    (h : ∀ g L' h₁ tk cells, Kept need s.heap g → (∀ q ∈ need, q.1 < L') → Fr g L' h₁ (bindL (envOfC qual scope L' f cdv).kindOf binds fun _ => none) → News g L' h₁ (cells ++ need) →
      CellsAre (bindC (envOfC qual scope L' f cdv).kindOf binds fun _ => none) (cellsFrom (L' + 1) scope.names []) cells → Below A base (env :: outer) g → K.In g → Top p loose mean mg mb g →
      wpAny (model prog w) (A.deeper (envOfC qual scope L' f cdv)) (execs body (envOfC qual scope L' f cdv)) (Done g L' s P) noErr { s with heap := h₁, toks := tk }) :
    wpAny (model prog w) A (call (.ref f) args) Q E s := by
  refine wpAny_call ?_
  obtain ⟨FG, BG, st, lv⟩ := groundX (R := fun r s' => match r with | .ok (.ret v) => Q v s' | .ok _ => False | .error e => E e s') B F N hA hf hke
  refine codeAny_call_function hroom ((X.keeps F.keep) _ _ ho) rfl hco hgen rfl (codeRec_of (X.keeps F.keep) hcd) ((BindsTo.of_eq hbind) _ _ _ _ ?_)
  refine wpAny_newFunctionEnv_cells hk (kindsX hkind _) fun env' he s' x => ?_
  subst he
  refine ⟨(T.nolimit.keeps F.keep).keeps x.toInCall.keep, codeAny_func ?_⟩
  obtain ⟨h₁, tk, rfl, _⟩ := x.done
  have hk₁ := x.toInCall.keep
  obtain ⟨cells, NC, Y⟩ := Cl.news (h₀ := s.heap) (Nat.le_refl _) fun n c hm => ⟨x.cell n c (lookup_of_mem_nodup (cellsFrom_names scope.names 0 (s.heap.objs.size + 1) [] [] rfl ▸ hnd) hm), x.above n c hm⟩
  refine wpAny_mono (h _ s.heap.objs.size h₁ tk cells (lend N) (fun q hq => Heap.lt_size (N q hq).1) ⟨x.toInCall.ns, fun b o e => hk₁ b o (of_hideAll _ e), Nat.le_of_eq (hideAll_size _ _)⟩
    (fun q hq => ?_) Y BG (X.keeps st) (T.keeps st)) (fun fl s' hl => ?_) fun _ _ y => y.elim
  · rcases List.mem_append.mp hq with hq | hq
    · refine ⟨(NC q hq).1, (NC q hq).2.1, ?_⟩
      cases e : (hideAll s.heap (need.map (·.1))).get? q.1 with
      | none => rfl
      | some o => have := of_hideAll _ e; rw [(NC q hq).2.2] at this; cases this
    · exact ⟨hk₁ _ _ (N q hq).1, Nat.ne_of_lt (Heap.lt_size (N q hq).1), hideAll_none _ (List.mem_map_of_mem hq)⟩
  obtain ⟨h', tk', m', news', rfl, F', N', hP⟩ := hl
  have tk' := took rfl F' N'
  exact lv _ _ (leaveK_ F' N' fun FF NN => hret _ h' _ news' hP FF NN tk'.1 tk'.2)

theorem call_nest_need {name qual : Str} {params : Arguments} {body : List Stmt} {scope : Scope} {cl : List (Str × Addr)} {doc pm ctv : Value} {c' : Addr} {f : Addr} {oc : Obj} {vs : Array Value} {t : Tok} {args : List Value} {binds : List (Str × Value)}
    (B : Below A₀ base outer h₀) (F : Fr h₀ L s.heap m) (X : K.In h₀) (N : News h₀ L s.heap need) (T : Top p loose mean mg mb h₀) (hA : A.frames = some (env :: outer)) (hf : env.frame = some L) (hke : env.scope.kind = .function)
    (hroom : A.depth < recursionLimit)
    (ho : (f, fnMade name qual params body scope cl doc pm c' ctv) ∈ need) (hm : (c', oc) ∈ need) (hd : oc.data = .fields vs) (hv : vs[1]? = some (.str qual t))
    (hbind : bindArgs (fnX name qual params body scope cl .none .none doc pm none (.ref c') ctv) ⟨args, []⟩ = pure binds) (hloc : (binds.all fun x => decide (scope.names.lookup x.1 = some .local)) = true)
    (hco : scope.isCoroutine = false) (hgen : scope.isGenerator = false) (hk : scope.kind = .function) (hcell : ∀ x ∈ scope.names, x.2 ≠ .cell)
    (hret : ∀ v h' tk news', P v news' → Fr h₀ L h' m → News h₀ L h' news' → Kept need s.heap h' → Fresh need s.heap news' → Q v { s with heap := h', toks := tk })
    (h : ∀ g L' h₁ tk, Kept need s.heap g → (∀ q ∈ need, q.1 < L') → Fr g L' h₁ (fun y => binds.reverse.lookup y) → News g L' h₁ need → Below A base (env :: outer) g → K.In g → Top p loose mean mg mb g →
      wpAny (model prog w) (A.deeper (envX qual scope L' f (.ref c') cl)) (execs body (envX qual scope L' f (.ref c') cl)) (Done g L' s P) noErr { s with heap := h₁, toks := tk }) :
    wpAny (model prog w) A (call (.ref f) args) Q E s := by
  refine wpAny_call ?_
  obtain ⟨FG, BG, st, lv⟩ := groundX (R := fun r s' => match r with | .ok (.ret v) => Q v s' | .ok _ => False | .error e => E e s') B F N hA hf hke
  refine codeAny_call_def (fd := fnX name qual params body scope cl .none .none doc pm none (.ref c') ctv) (body := body) (binds := binds) hroom (N _ ho).1 rfl (T.nolimit.keeps F.keep) (codeRec_news N hm hd hv) rfl (.of_eq hbind) hcell (locs hloc) (fun h₁ hns hk₁ => ?_) hco hgen hk
  refine wpAny_mono (h _ s.heap.objs.size h₁ _ (lend N) (fun q hq => Heap.lt_size (N q hq).1) ⟨hns, fun b o e => hk₁ b o (of_hideAll _ e), Nat.le_of_eq (hideAll_size _ _)⟩
    (fun q hq => ⟨hk₁ _ _ (N q hq).1, Nat.ne_of_lt (Heap.lt_size (N q hq).1), hideAll_none _ (List.mem_map_of_mem hq)⟩) BG (X.keeps st) (T.keeps st)) (fun fl s' hl => ?_) fun _ _ y => y.elim
  obtain ⟨h', tk, m', news', rfl, F', N', hP⟩ := hl
  have tk' := took rfl F' N'
  exact lv _ _ (leaveK_ F' N' fun FF NN => hret _ h' tk news' hP FF NN tk'.1 tk'.2)

/-- the rest of a ledger lives on through a call -/
theorem News.rest {h h' : Heap} {rest : List (Addr × Obj)} (N : News h₀ L h rest) (K : Kept need h h') (hn : ∀ q ∈ rest, q.1 ∉ need.map (·.1)) : News h₀ L h' rest :=
  fun q hq => ⟨K _ _ (hn q hq) (N q hq).1, (N q hq).2⟩
theorem News.app {h : Heap} {xs ys : List (Addr × Obj)} (N₁ : News h₀ L h xs) (N₂ : News h₀ L h ys) : News h₀ L h (xs ++ ys) :=
  fun q hq => (List.mem_append.mp hq).elim (N₁ q) (N₂ q)
theorem News.sub {h : Heap} {xs ys : List (Addr × Obj)} (N : News h₀ L h xs) (hs : ∀ q ∈ ys, q ∈ xs) : News h₀ L h ys := fun q hq => N q (hs q hq)
theorem News.cons {h : Heap} {a : Addr} {o : Obj} {ys : List (Addr × Obj)} (N : News h₀ L h [(a, o)]) (N₂ : News h₀ L h ys) : News h₀ L h ((a, o) :: ys) := News.app N N₂
end

theorem kept_all {need : List (Addr × Obj)} {h₀ h h' : Heap} {L : Addr} {news' : List (Addr × Obj)} (N : News h₀ L h need) (N' : News h₀ L h' news') (hs : ∀ q ∈ need, q ∈ news') (K : Kept need h h') : Kept [] h h' := by
  intro b o _ e
  by_cases hb : b ∈ need.map (·.1)
  · obtain ⟨q, hq, rfl⟩ := List.mem_map.mp hb
    have := (N q hq).1
    rw [e] at this; cases this
    exact (N' q (hs q hq)).1
  · exact K b o hb e
theorem News.kept {h₀ h h' : Heap} {L : Addr} {news : List (Addr × Obj)} (N : News h₀ L h news) (K : Kept [] h h') : News h₀ L h' news :=
  fun q hq => ⟨K _ _ (fun h => nomatch h) (N q hq).1, (N q hq).2⟩

/-- a call that leaves all as it stood, and hands back a plain value -/
noncomputable def Plain (need : List (Addr × Obj)) (P : Value → Prop) : Value → List (Addr × Obj) → Prop := fun v news' => P v ∧ ∀ q ∈ need, q ∈ news'
theorem plain_ret {Q : Value → Shared → Prop} {h₀ : Heap} {L : Addr} {m : Str → Option Value} {s : Shared} {need news : List (Addr × Obj)} {P : Value → Prop} (N : News h₀ L s.heap news) (hs : ∀ q ∈ need, q ∈ news)
    (hret : ∀ v h' tk, P v → Fr h₀ L h' m → News h₀ L h' news → Kept [] s.heap h' → Q v { s with heap := h', toks := tk }) :
    ∀ v h' tk news', Plain need P v news' → Fr h₀ L h' m → News h₀ L h' news' → Kept need s.heap h' → Fresh need s.heap news' → Q v { s with heap := h', toks := tk } :=
  fun v h' tk news' hP F' N' K _ => have k := kept_all (fun q hq => N q (hs q hq)) N' hP.2 K; hret v h' tk hP.1 F' (News.kept N k) k

theorem call_nest_plain {prog : Program} {w : World} {p : Program} {loose : List Str} {mean : ExcName → Option Value} {mg mb : Str → Option Value} {K : Frag}
    {A A₀ : Around} {base h₀ : Heap} {L : Addr} {m : Str → Option Value} {need news : List (Addr × Obj)} {s : Shared} {env : Env} {outer : List Env}
    {Q E : Value → Shared → Prop} (P : Value → Prop)
    {name qual : Str} {params : Arguments} {body : List Stmt} {scope : Scope} {cl : List (Str × Addr)} {doc pm ctv : Value} {c' : Addr} {f : Addr} {oc : Obj} {vs : Array Value} {t : Tok} {args : List Value} {binds : List (Str × Value)}
    (B : Below A₀ base outer h₀) (F : Fr h₀ L s.heap m) (X : K.In h₀) (N : News h₀ L s.heap news) (hs : ∀ q ∈ need, q ∈ news) (T : Top p loose mean mg mb h₀) (hA : A.frames = some (env :: outer)) (hf : env.frame = some L) (hke : env.scope.kind = .function)
    (hroom : A.depth < recursionLimit)
    (ho : (f, fnMade name qual params body scope cl doc pm c' ctv) ∈ need) (hm : (c', oc) ∈ need) (hd : oc.data = .fields vs) (hv : vs[1]? = some (.str qual t))
    (hbind : bindArgs (fnX name qual params body scope cl .none .none doc pm none (.ref c') ctv) ⟨args, []⟩ = pure binds) (hloc : (binds.all fun x => decide (scope.names.lookup x.1 = some .local)) = true)
    (hco : scope.isCoroutine = false) (hgen : scope.isGenerator = false) (hk : scope.kind = .function) (hcell : ∀ x ∈ scope.names, x.2 ≠ .cell)
    (hret : ∀ v h' tk, P v → Fr h₀ L h' m → News h₀ L h' news → Kept [] s.heap h' → Q v { s with heap := h', toks := tk })
    (h : ∀ g L' h₁ tk, Kept need s.heap g → (∀ q ∈ need, q.1 < L') → Fr g L' h₁ (fun y => binds.reverse.lookup y) → News g L' h₁ need → Below A base (env :: outer) g → K.In g → Top p loose mean mg mb g →
      wpAny (model prog w) (A.deeper (envX qual scope L' f (.ref c') cl)) (execs body (envX qual scope L' f (.ref c') cl)) (Done g L' s (Plain need P)) noErr { s with heap := h₁, toks := tk }) :
    wpAny (model prog w) A (call (.ref f) args) Q E s :=
  call_nest_need (P := Plain need P) B F X (News.sub N hs) T hA hf hke hroom ho hm hd hv hbind hloc hco hgen hk hcell (plain_ret N hs hret) h

theorem ne_new {h₀ h : Heap} {L a : Addr} {news : List (Addr × Obj)} (N : News h₀ L h news) (ha : h.get? a = none) : ∀ q ∈ news, q.1 ≠ a := fun q hq e => by
  have := (N q hq).1
  rw [e, ha] at this; cases this

theorem fill : (hd.heap_1 = hd.heap_1 ∧ PySem.Challenge.rw_rs0186_01 = PySem.Challenge.rw_rs0186_01) := by
  k_fill
  w_top off
  exact ⟨rfl, rfl⟩
/-- the mark of a state written anew -/
noncomputable def Clean (n : Nat) : Nat := n
theorem isClean {M : Model} {A : Around} {α : Type} {c : Sem α} {Q : α → Shared → Prop} {E : Value → Shared → Prop} {h : Heap} {G : Array GenState} {D : Drawn} {O : OsState} {t : Nat}
    (H : wpAny M A c Q E ⟨h, G, D, Clean t, O⟩) : wpAny M A c Q E ⟨h, G, D, Clean t, O⟩ := H
/-- the state at a statement's start, written anew: its tokens are any, its other parts those of the start -/
theorem cleanT {M : Model} {A : Around} {α : Type} {c : Sem α} {Q : α → Shared → Prop} {E : Value → Shared → Prop} {s : Shared} {h₀ : Heap} {L : Addr} {h : Heap} {m : Str → Option Value} {G : Array GenState} {D : Drawn} {O : OsState}
    (F : Fr h₀ L h m) (eh : s.heap = h) (eg : s.gens = G) (ed : s.drawn = D) (eo : s.os = O) (H : ∀ tk, wpAny M A c Q E ⟨h, G, D, Clean tk, O⟩) : wpAny M A c Q E s := by
  obtain ⟨_, _, _, _, _⟩ := s
  cases eh; cases eg; cases ed; cases eo
  exact H _
/-- the goal behind a letter: what is opened meanwhile is opened cheaply -/
theorem hideG {P : Prop} (h : ∀ G : Prop, (P → G) → G) : P := h P id
end Mine
end SCore
section SPl1
namespace Mine
open PySem
/-- the digits from the lowest, in base 2 ^ n -/
noncomputable def dval (n : Nat) : List Int → Int
  | [] => 0
  | x :: xs => x + 2 ^ n * dval n xs

theorem dval_append (n : Nat) (ys : List Int) : ∀ xs : List Int, dval n (xs ++ ys) = dval n xs + 2 ^ (n * xs.length) * dval n ys
  | [] => by simp [dval]
  | x :: xs => by
    rw [List.cons_append, dval, dval_append n ys xs, dval, List.length_cons, Nat.mul_add, Nat.mul_one, Int.pow_add, Int.mul_add, Int.mul_comm (2 ^ (n * xs.length)) (2 ^ n), Int.mul_assoc, Int.add_assoc]

theorem dval_bound {n : Nat} : ∀ {ds : List Int}, (∀ x ∈ ds, 0 ≤ x ∧ x < 2 ^ n) → 0 ≤ dval n ds ∧ dval n ds < 2 ^ (n * ds.length)
  | [], _ => by simp [dval]
  | x :: xs, h => by
    have h1 := h x (.head _)
    have h2 := dval_bound (ds := xs) fun y hy => h y (.tail _ hy)
    have hp : (0 : Int) < 2 ^ n := Int.pow_pos (by decide)
    rw [dval, List.length_cons, Nat.mul_add, Nat.mul_one, Int.pow_add, Int.mul_comm (2 ^ (n * xs.length)) (2 ^ n)]
    constructor
    · have := Int.mul_nonneg (Int.le_of_lt hp) h2.1
      omega
    · have h3 : dval n xs + 1 ≤ 2 ^ (n * xs.length) := h2.2
      have h4 := Int.mul_le_mul_of_nonneg_left h3 (Int.le_of_lt hp)
      rw [Int.mul_add, Int.mul_one] at h4
      omega

theorem two_pow_nat (k : Nat) : (2 : Int) ^ k = ((2 ^ k : Nat) : Int) := by rw [Int.natCast_pow]; rfl
theorem dval_bits {n : Nat} {ds : List Int} (h : ∀ x ∈ ds, 0 ≤ x ∧ x < 2 ^ n) (hn : n ≤ 100) (hl : ds.length ≤ 100) : Builtin.Int.intBits (dval n ds) ≤ 10000 := by
  refine intBits_le_iff.mpr ?_
  have b := dval_bound h
  rw [two_pow_nat] at b
  have e1 : n * ds.length ≤ 10000 := Nat.mul_le_mul hn hl
  generalize n * ds.length = k at *
  have e2 : 2 ^ k ≤ 2 ^ 10000 := Nat.pow_le_pow_right (by decide) e1
  refine Nat.lt_of_lt_of_le ?_ e2
  generalize 2 ^ k = z at *
  omega

theorem dval_split {n : Nat} {ds : List Int} {l mid r : Int} (h0 : 0 ≤ l) (h1 : l ≤ mid) (h2 : mid ≤ r) (h3 : r ≤ ds.length) :
    dval n ((ds.drop mid.toNat).take (r - mid).toNat) * 2 ^ ((mid - l) * (n : Int)).toNat + dval n ((ds.drop l.toNat).take (mid - l).toNat) = dval n ((ds.drop l.toNat).take (r - l).toNat) := by
  have e : (ds.drop l.toNat).take (r - l).toNat = (ds.drop l.toNat).take (mid - l).toNat ++ (ds.drop mid.toNat).take (r - mid).toNat := by
    have a : (r - l).toNat = (mid - l).toNat + (r - mid).toNat := by lia
    rw [a, List.take_add, List.drop_drop]
    have : l.toNat + (mid - l).toNat = mid.toNat := by lia
    rw [this]
  have e2 : ((mid - l) * (n : Int)).toNat = n * (mid - l).toNat := by
    obtain ⟨k, hk⟩ : ∃ k : Nat, mid - l = k := ⟨(mid - l).toNat, by omega⟩
    rw [hk, ← Int.natCast_mul, Int.toNat_natCast, Nat.mul_comm, Int.toNat_natCast]
  rw [e, dval_append, e2, List.length_take, List.length_drop]
  have e3 : min (mid - l).toNat (ds.length - l.toNat) = (mid - l).toNat := by omega
  rw [e3, Int.mul_comm, Int.add_comm]

theorem dval_one {n : Nat} {ds : List Int} {l r : Int} (h0 : 0 ≤ l) (h1 : l + 1 = r) (h3 : r ≤ ds.length) : dval n ((ds.drop l.toNat).take (r - l).toNat) = ds.getD l.toNat 0 := by
  have a : (r - l).toNat = 1 := by omega
  have b : l.toNat < ds.length := by omega
  rw [a, List.drop_eq_getElem_cons b, List.take_succ_cons, List.take_zero, dval, dval]
  simp [b]

theorem sub_digits {P : Int → Prop} {ds : List Int} (h : ∀ x ∈ ds, P x) (a b : Nat) : ∀ x ∈ (ds.drop a).take b, P x := fun x hx => h x (List.mem_of_mem_drop (List.mem_of_mem_take hx))
end Mine
end SPl1
section SPl2
namespace Mine
open PySem PyProof.Rows
noncomputable def toDig (n : Nat) : Nat → Int → List Int
  | 0, _ => []
  | k + 1, x => x % 2 ^ n :: toDig n k (x / 2 ^ n)
theorem toDig_length (n : Nat) : ∀ k x, (toDig n k x).length = k
  | 0, _ => rfl
  | k + 1, x => by rw [toDig, List.length_cons, toDig_length]
theorem two_pos (n : Nat) : (0 : Int) < 2 ^ n := Int.pow_pos (by decide)
theorem toDig_range (n : Nat) : ∀ k x, ∀ y ∈ toDig n k x, 0 ≤ y ∧ y < 2 ^ n
  | 0, _ => fun _ h => nomatch h
  | k + 1, x => fun y h => by
    rcases List.mem_cons.mp h with rfl | h
    · exact ⟨Int.emod_nonneg _ (Int.ne_of_gt (two_pos n)), Int.emod_lt_of_pos _ (two_pos n)⟩
    · exact toDig_range n k _ y h
theorem mod_div_split (x P Q : Int) (hp : 0 < P) (hq : 0 < Q) : x / P % Q = x % (P * Q) / P := by
  have a := Int.mul_ediv_add_emod x P
  have b := Int.mul_ediv_add_emod (x / P) Q
  have r1 := Int.emod_nonneg x (Int.ne_of_gt hp)
  have r2 := Int.emod_lt_of_pos x hp
  have s1 := Int.emod_nonneg (x / P) (Int.ne_of_gt hq)
  have s2 := Int.emod_lt_of_pos (x / P) hq
  generalize hv : x / P % Q = v at *
  generalize x / P / Q = u at *
  generalize x % P = r at *
  have hx : x = P * v + r + P * Q * u := by rw [← a, ← b, Int.mul_add, Int.mul_assoc]; lia
  have hlt : P * v + r < P * Q := by
    have h1 : v + 1 ≤ Q := s2
    have h2 := Int.mul_le_mul_of_nonneg_left h1 (Int.le_of_lt hp)
    rw [Int.mul_add, Int.mul_one] at h2
    omega
  have h0 : 0 ≤ P * v + r := by have := Int.mul_nonneg (Int.le_of_lt hp) s1; omega
  rw [hx, Int.add_mul_emod_self_left, Int.emod_eq_of_lt h0 hlt, Int.mul_comm P v, Int.add_comm, Int.add_mul_ediv_right _ _ (Int.ne_of_gt hp), Int.ediv_eq_zero_of_lt r1 r2, Int.zero_add]
theorem toDig_add (n k : Nat) : ∀ j x, toDig n (j + k) x = toDig n j (x % 2 ^ (n * j)) ++ toDig n k (x / 2 ^ (n * j))
  | 0, x => by simp [toDig]
  | j + 1, x => by
    rw [show j + 1 + k = (j + k) + 1 by lia, toDig, toDig, toDig_add n k j, List.cons_append]
    have e1 : (2 : Int) ^ (n * (j + 1)) = 2 ^ n * 2 ^ (n * j) := by rw [Nat.mul_add, Nat.mul_one, Nat.add_comm, Int.pow_add]
    have h1 : x % 2 ^ (n * (j + 1)) % 2 ^ n = x % 2 ^ n := Int.emod_emod_of_dvd _ ⟨_, e1⟩
    have h2 : x / 2 ^ n % 2 ^ (n * j) = x % 2 ^ (n * (j + 1)) / 2 ^ n := by rw [e1, mod_div_split x _ _ (two_pos n) (two_pos _)]
    have h3 : x / 2 ^ n / 2 ^ (n * j) = x / 2 ^ (n * (j + 1)) := by rw [e1, Int.ediv_ediv_of_nonneg (Int.le_of_lt (two_pos n))]
    rw [h1, h2, h3]
theorem dval_toDig (n : Nat) : ∀ k x, 0 ≤ x → x < 2 ^ (n * k) → dval n (toDig n k x) = x
  | 0, x, h0, h1 => by simp at h1; simp [toDig, dval]; lia
  | k + 1, x, h0, h1 => by
    have hp := two_pos n
    rw [toDig, dval, dval_toDig n k (x / 2 ^ n) (Int.ediv_nonneg h0 (Int.le_of_lt hp)) ?_]
    · have := Int.mul_ediv_add_emod x (2 ^ n); lia
    · rw [Nat.mul_add, Nat.mul_one, Int.pow_add] at h1
      exact Int.ediv_lt_of_lt_mul hp h1

theorem and_high (x k : Nat) : x &&& (x / 2 ^ k * 2 ^ k) = x / 2 ^ k * 2 ^ k := by
  rw [← Nat.shiftRight_eq_div_pow, ← Nat.shiftLeft_eq]
  apply Nat.eq_of_testBit_eq
  intro i
  rw [Nat.testBit_and, Nat.testBit_shiftLeft, Nat.testBit_shiftRight]
  by_cases h : k ≤ i
  · simp [h]
  · simp [h]
theorem xor_low {x : Int} {k : Nat} (h : 0 ≤ x) : Builtin.bitXor x (x / 2 ^ k * 2 ^ k) = x % 2 ^ k := by
  obtain ⟨a, rfl⟩ := Int.eq_ofNat_of_zero_le h
  have e : (a : Int) / 2 ^ k * 2 ^ k = ((a / 2 ^ k * 2 ^ k : Nat) : Int) := by rw [two_pow_nat]; norm_cast
  rw [e, bitXor_and]
  have e2 : Builtin.bitAnd (a : Int) ((a / 2 ^ k * 2 ^ k : Nat) : Int) = ((a / 2 ^ k * 2 ^ k : Nat) : Int) := by
    have : Builtin.bitAnd (a : Int) ((a / 2 ^ k * 2 ^ k : Nat) : Int) = ((a &&& (a / 2 ^ k * 2 ^ k) : Nat) : Int) := by
      generalize a / 2 ^ k * 2 ^ k = b
      unfold Builtin.bitAnd
      rw [decide_eq_true (Int.natCast_nonneg a), decide_eq_true (Int.natCast_nonneg b)]
      simp
    rw [this, and_high]
  rw [e2, two_pow_nat]
  have := Nat.div_add_mod a (2 ^ k)
  rw [Nat.mul_comm] at this
  omega
end Mine
end SPl2
section SPl3
namespace Mine
open PySem PyProof.Rows
theorem dval_single (n : Nat) (x : Int) : dval n [x] = x := by simp [dval]
/-- long division, the digits from the top -/
noncomputable def ldiv (b : Int) (n : Nat) : List Int → Int → List Int × Int
  | [], r => ([], r)
  | d :: ds, r => ((r * 2 ^ n + d) / b :: (ldiv b n ds ((r * 2 ^ n + d) % b)).1, (ldiv b n ds ((r * 2 ^ n + d) % b)).2)
theorem ldiv_snoc (b : Int) (n : Nat) (d : Int) : ∀ (ds : List Int) (r : Int), ldiv b n (ds ++ [d]) r = ((ldiv b n ds r).1 ++ [((ldiv b n ds r).2 * 2 ^ n + d) / b], ((ldiv b n ds r).2 * 2 ^ n + d) % b)
  | [], r => rfl
  | e :: ds, r => by rw [List.cons_append, ldiv, ldiv_snoc b n d ds]; rfl
theorem ldiv_length (b : Int) (n : Nat) : ∀ (ds : List Int) (r : Int), (ldiv b n ds r).1.length = ds.length
  | [], _ => rfl
  | d :: ds, r => by rw [ldiv, List.length_cons, ldiv_length b n ds, List.length_cons]
theorem ldiv_spec {b : Int} {n : Nat} (hb : 0 < b) : ∀ (ds : List Int) (r : Int), (∀ x ∈ ds, 0 ≤ x ∧ x < 2 ^ n) → 0 ≤ r → r < b →
    (∀ x ∈ (ldiv b n ds r).1, 0 ≤ x ∧ x < 2 ^ n) ∧ 0 ≤ (ldiv b n ds r).2 ∧ (ldiv b n ds r).2 < b ∧ r * 2 ^ (n * ds.length) + dval n ds.reverse = b * dval n (ldiv b n ds r).1.reverse + (ldiv b n ds r).2
  | [], r, _, h0, h1 => by simp [ldiv, dval, h0, h1]
  | d :: ds, r, hd, h0, h1 => by
    have hp := two_pos n
    have hd0 := hd d (.head _)
    have hx0 : 0 ≤ r * 2 ^ n + d := by have := Int.mul_nonneg h0 (Int.le_of_lt hp); omega
    have hx1 : r * 2 ^ n + d < 2 ^ n * b := by
      have h2 : r + 1 ≤ b := h1
      have h3 := Int.mul_le_mul_of_nonneg_right h2 (Int.le_of_lt hp)
      rw [Int.add_mul, Int.one_mul, Int.mul_comm b] at h3
      omega
    have ih := ldiv_spec hb ds ((r * 2 ^ n + d) % b) (fun x hx => hd x (.tail _ hx)) (Int.emod_nonneg _ (Int.ne_of_gt hb)) (Int.emod_lt_of_pos _ hb)
    have hq : 0 ≤ (r * 2 ^ n + d) / b ∧ (r * 2 ^ n + d) / b < 2 ^ n := ⟨Int.ediv_nonneg hx0 (Int.le_of_lt hb), Int.ediv_lt_of_lt_mul hb hx1⟩
    have hxe := Int.mul_ediv_add_emod (r * 2 ^ n + d) b
    have hl := ldiv_length b n ds ((r * 2 ^ n + d) % b)
    rw [ldiv]
    dsimp only
    generalize ldiv b n ds ((r * 2 ^ n + d) % b) = z at *
    obtain ⟨qs, r'⟩ := z
    dsimp only at *
    refine ⟨fun x hx => ?_, ih.2.1, ih.2.2.1, ?_⟩
    · rcases List.mem_cons.mp hx with rfl | hx
      · exact hq
      · exact ih.1 x hx
    · have e := ih.2.2.2
      rw [List.reverse_cons, List.reverse_cons, dval_append, dval_append, List.length_reverse, List.length_reverse, hl, dval_single, dval_single, List.length_cons, Nat.mul_add, Nat.mul_one, Int.pow_add]
      generalize (2 : Int) ^ (n * ds.length) = P at *
      generalize (r * 2 ^ n + d) / b = q at *
      generalize (r * 2 ^ n + d) % b = r1 at *
      generalize (2 : Int) ^ n = B at *
      have e1 : r * (P * B) + P * d = P * (r * B + d) := by
        rw [Int.mul_add, ← Int.mul_assoc, ← Int.mul_assoc, Int.mul_comm r P]
      have e2 : P * (r * B + d) = b * (P * q) + r1 * P := by
        rw [← hxe, Int.mul_add, ← Int.mul_assoc, ← Int.mul_assoc, Int.mul_comm P b, Int.mul_comm P r1]
      rw [Int.mul_add]
      lia
theorem ldiv_top {b a : Int} {n cnt : Nat} (hb : 0 < b) (ha : 0 ≤ a) (hac : a < 2 ^ (n * cnt)) {qs : List Int} {r : Int} (h : ldiv b n (toDig n cnt a).reverse 0 = (qs, r)) :
    (∀ x ∈ qs.reverse, 0 ≤ x ∧ x < 2 ^ n) ∧ dval n qs.reverse = a / b ∧ r = a % b := by
  have s := ldiv_spec (n := n) hb (toDig n cnt a).reverse 0 (fun x hx => toDig_range n cnt a x (List.mem_reverse.mp hx)) (Int.le_refl _) hb
  rw [h] at s
  dsimp only at s
  rw [Int.zero_mul, Int.zero_add, List.reverse_reverse, dval_toDig n cnt a ha hac] at s
  obtain ⟨s1, s2, s3, s4⟩ := s
  refine ⟨fun x hx => s1 x (List.mem_reverse.mp hx), ?_, ?_⟩
  · rw [s4, Int.add_comm, Int.mul_comm, Int.add_mul_ediv_right _ _ (Int.ne_of_gt hb), Int.ediv_eq_zero_of_lt s2 s3, Int.zero_add]
  · rw [s4, Int.add_comm, Int.add_mul_emod_self_left, Int.emod_eq_of_lt s2 s3]
end Mine
end SPl3
section SPl4
namespace Mine
open PySem
/-- a deed: kind, amount, remark -/
structure Deed where
  kind : Int
  amount : Int
  remark : Str
noncomputable def amtOf (t kn : Int) : Int := if t.fmod kn < 2 then (t.fdiv 36).fmod 32 + 3 else if t.fmod kn = 2 then 1 + ((t.fdiv 36).fmod 32).fmod 3 else (t.fdiv 36).fmod 32
noncomputable def remOf (i : Int) : Str :=
  if i = 0 then Str.ofString "" else if i = 1 then Str.ofString "\"(\"" else if i = 2 then Str.ofString "\")//7\"" else if i = 3 then Str.ofString "\"\\\")//3(\"" else if i = 4 then Str.ofString "\"(x\"" else Str.ofString "\"~\\\"\""
noncomputable def drawD (t kn : Int) : Deed := ⟨t.fmod kn, amtOf t kn, remOf ((t.fdiv 6).fmod 6)⟩
noncomputable def figs (a : Int) : Str := Str.ofString (toString (a.fdiv 8)) ++ Str.ofString (toString (a.fmod 8))
noncomputable def opOf (k : Int) : Str := if k = 0 then Str.ofString "//" else if k = 1 then Str.ofString "//-" else if k = 2 then Str.ofString ">>" else Str.ofString "+"
noncomputable def writeD (tx : Str) (d : Deed) : Str :=
  (if d.kind = 3 then Str.ofString "~(" ++ tx ++ Str.ofString ")" else if d.kind = 5 then figs d.amount ++ Str.ofString "-(" ++ tx ++ Str.ofString ")"
    else Str.ofString "(" ++ tx ++ Str.ofString ")" ++ opOf d.kind ++ figs d.amount) ++ d.remark
noncomputable def written (ds : List Deed) : Str := ds.foldl writeD (Str.ofString "x")
noncomputable def wSide (k side : Int) : Int := if k = 1 ∨ k = 3 ∨ k = 5 then -side else side
noncomputable def wPlus (k a plus size : Int) : Int :=
  (if k = 1 ∨ k = 3 ∨ k = 5 then -plus - 1 else plus) + (if k = 1 then size else if k = 4 then a * size else if k = 5 then (a + 1) * size else 0)
noncomputable def wSize (k a size : Int) : Int := if k < 2 then size * a else if k = 2 then size * 2 ^ a.toNat else size
noncomputable def wholeStep (st : Int × Int × Int) (d : Deed) : Int × Int × Int := (wSide d.kind st.1, wPlus d.kind d.amount st.2.1 st.2.2, wSize d.kind d.amount st.2.2)
noncomputable def whole (ds : List Deed) : Int × Int × Int := ds.foldl wholeStep (1, 0, 1)
end Mine
end SPl4
section SPl5
namespace Mine
open PySem
/-- a deed read from the text: the sign's number, the amount -/
noncomputable def doneStep (v : Int) (d : Int × Int) : Int :=
  if d.1 = 47 then v.fdiv d.2 else if d.1 = 34 then v.fdiv (2 ^ d.2.toNat) else if d.1 = 31 then -1 - v else if d.1 = 15 then d.2 - v else v + d.2
noncomputable def doneAll (ds : List (Int × Int)) (v : Int) : Int := ds.foldl doneStep v
noncomputable def OkDeed (d : Int × Int) : Prop := (d.1 = 47 → d.2 ≠ 0) ∧ (d.1 = 34 → 1 ≤ d.2 ∧ d.2 ≤ 3) ∧ -100 ≤ d.2 ∧ d.2 ≤ 100
theorem fdiv_abs (v : Int) {b : Int} (hb : b ≠ 0) : (v.fdiv b).natAbs ≤ v.natAbs := by
  exact natAbs_fdiv_le v b
end Mine
end SPl5
section SPl6
namespace Mine
open PySem
noncomputable def opS (k : Int) : List Int := if k = 0 then [47] else if k = 1 then [47, 15] else if k = 2 then [34] else [14]
noncomputable def wrapK (k a : Int) (ss : List Int) : List Int :=
  if k = 3 then 31 :: 7 :: (ss ++ [8]) else if k = 5 then (256 + a) :: 15 :: 7 :: (ss ++ [8]) else 7 :: (ss ++ 8 :: (opS k ++ [256 + a]))
noncomputable def readD (d : Deed) : Int × Int :=
  if d.kind = 3 then (31, 0) else if d.kind = 5 then (15, d.amount) else if d.kind = 0 then (47, d.amount) else if d.kind = 1 then (47, -d.amount) else if d.kind = 2 then (34, d.amount) else (14, d.amount)
noncomputable def symsOf (ds : List Deed) : List Int := ds.foldl (fun ss d => wrapK d.kind d.amount ss) [1]
theorem syms_snoc {ds : List Deed} {i : Nat} {d : Deed} (h : ds[i]? = some d) : symsOf (ds.take (i + 1)) = wrapK d.kind d.amount (symsOf (ds.take i)) := by
  unfold symsOf
  rw [List.take_add_one, h]
  simp
theorem wrap_length (k a : Int) (ss : List Int) : (wrapK k a ss).length ≤ ss.length + 5 ∧ 2 ≤ (wrapK k a ss).length := by
  unfold wrapK opS
  (repeat' split) <;> simp <;> omega
theorem syms_length (ds : List Deed) : 0 < (symsOf ds).length ∧ (symsOf ds).length ≤ 1 + 5 * ds.length := by
  unfold symsOf
  suffices h : ∀ (ds : List Deed) (ss : List Int), 0 < ss.length → 0 < (ds.foldl (fun ss d => wrapK d.kind d.amount ss) ss).length ∧ (ds.foldl (fun ss d => wrapK d.kind d.amount ss) ss).length ≤ ss.length + 5 * ds.length by
    have := h ds [1] (by simp)
    simpa using this
  intro ds
  induction ds with
  | nil => intro ss h; simpa using h
  | cons d ds ih =>
    intro ss h
    rw [List.foldl_cons]
    have a := wrap_length d.kind d.amount ss
    have b := ih (wrapK d.kind d.amount ss) (by omega)
    rw [List.length_cons]
    lia
end Mine
end SPl6
section SPl7
namespace Mine
open PySem PyProof PySem.Spec PySem.Builtin PySem.Builtin.Str
theorem range_get (x : Array Nat) (a k : Nat) : (List.range k).filterMap (fun j => x[a + j]?) = (x.toList.drop a).take k := by
  induction k with
  | zero => rfl
  | succ k ih =>
    rw [List.range_succ, List.filterMap_append, ih, List.take_add_one]
    congr 1
    rw [List.getElem?_drop]
    cases h : x[a + k]? <;> simp [h]
theorem range_len (A B : Nat) : (if (A : Int) < (B : Int) then (B : Int) - (A : Int) + 1 - 1 else 0).toNat = B - A := by split <;> omega
theorem slice_cps (x : Str) (a b : Nat) : (Txt.slice x (some (a : Int)) (some (b : Int))).cps.toList = (x.cps.toList.drop a).take (b - a) := by
  have hn : x.length = x.cps.toList.length := by rw [Array.length_toList]; rfl
  have hs : strSliceIndices (some (a : Int)) (some (b : Int)) 1 x.length = (List.range (min b x.length - min a x.length)).map (fun j => min a x.length + j) := by
    unfold strSliceIndices sliceRange
    simp only [show (1 : Int) > 0 by decide, if_true, show ¬ ((a : Int) < 0) by omega, show ¬ ((b : Int) < 0) by omega, if_false, Int.ediv_one]
    have e1 : max (0 : Int) (min (a : Int) x.length) = ((min a x.length : Nat) : Int) := by omega
    have e2 : max (0 : Int) (min (b : Int) x.length) = ((min b x.length : Nat) : Int) := by omega
    rw [e1, e2]
    have e3 : (if ((min a x.length : Nat) : Int) < ((min b x.length : Nat) : Int) then ((min b x.length : Nat) : Int) - ((min a x.length : Nat) : Int) + 1 - 1 else 0).toNat = min b x.length - min a x.length := range_len _ _
    rw [e3]
    refine List.map_congr_left ?_
    intro j hj
    generalize min a x.length = m
    omega
  unfold Txt.slice
  rw [hs]
  split
  · rename_i h
    simp at h
    rw [hn] at h
    rw [List.take_of_length_le]
    · by_cases ha : a = 0
      · subst ha; rfl
      · have : x.cps.toList.length = 0 := by omega
        rw [List.length_eq_zero_iff] at this
        rw [this]; simp
    · rw [List.length_drop]; omega
  · show (List.filterMap _ _).toArray.toList = _
    rw [List.toList_toArray, List.filterMap_map]
    show (List.range _).filterMap (fun j => x.cps[min a x.length + j]?) = _
    rw [range_get, hn]
    by_cases ha : a ≤ x.cps.toList.length
    · rw [Nat.min_eq_left ha]
      by_cases hb : b ≤ x.cps.toList.length
      · rw [Nat.min_eq_left hb]
      · rw [List.take_of_length_le (by rw [List.length_drop]; omega), List.take_of_length_le (by rw [List.length_drop]; omega)]
    · rw [List.drop_of_length_le (by omega), List.drop_of_length_le (by omega)]; simp
theorem slice_cps_end (x : Str) (a : Nat) : (Txt.slice x (some (a : Int)) none).cps.toList = x.cps.toList.drop a := by
  have hn : x.length = x.cps.toList.length := by rw [Array.length_toList]; rfl
  have : Txt.slice x (some (a : Int)) none = Txt.slice x (some (a : Int)) (some ((x.length : Nat) : Int)) := by
    have e : strSliceIndices (some (a : Int)) none 1 x.length = strSliceIndices (some (a : Int)) (some ((x.length : Nat) : Int)) 1 x.length := by
      unfold strSliceIndices
      simp only [show (1 : Int) > 0 by decide, if_true, show ¬ ((x.length : Int) < 0) by lia, if_false, Int.min_self, show max (0 : Int) (x.length : Int) = x.length by lia]
    unfold Txt.slice
    rw [e]
  rw [this, slice_cps, List.take_of_length_le]
  rw [List.length_drop]; lia
/-- no key of the table may hold a figure or an x, or go on with a bracket or a minus -/
noncomputable def okKey (l : List Nat) : Bool :=
  l.all (fun c => !(48 ≤ c && c ≤ 57) && c != 120) && l.tail.all (fun c => c != 40 && c != 45) && (match l with | c :: _ :: _ => c != 40 && c != 41 && c != 126 | _ => true)
noncomputable def goodTab (D : List (PyData × PyData)) : Bool :=
  D.all (fun p => match p.1 with | .str y => okKey y.cps.toList | _ => false) &&
  [([40], (7 : Int)), ([41], 8), ([126], 31), ([45], 15), ([43], 14), ([47, 47], 47), ([62, 62], 34)].all
    (fun q => match lookup (.str ⟨q.1.toArray⟩) D with | some (.int i) => i == q.2 | _ => false)
noncomputable def hasKey (D : List (PyData × PyData)) (l : List Nat) : Bool := (lookup (.str ⟨l.toArray⟩) D).isSome
theorem lookup_ok {D : List (PyData × PyData)} {l : List Nat} (h : D.all (fun p => match p.1 with | .str y => okKey y.cps.toList | _ => false) = true) (hh : (lookup (.str ⟨l.toArray⟩) D).isSome = true) : okKey l = true := by
  induction D with
  | nil => simp [lookup] at hh
  | cons p r ih =>
    obtain ⟨a, b⟩ := p
    rw [List.all_cons, Bool.and_eq_true] at h
    rw [lookup] at hh
    split at hh
    · rename_i hs
      cases a with
      | str y =>
        rw [PyProof.V.same_str] at hs
        have hs := of_decide_eq_true hs
        subst hs
        exact h.1
      | _ => simp at h
    · exact ih h.2 hh
theorem hasKey_no {D : List (PyData × PyData)} {l : List Nat} (h : goodTab D = true) (hl : okKey l = false) : hasKey D l = false := by
  unfold goodTab at h
  rw [Bool.and_eq_true] at h
  cases hh : hasKey D l
  · rfl
  · have := lookup_ok h.1 hh
    rw [hl] at this
    cases this
theorem lookup_code {D : List (PyData × PyData)} {l : List Nat} {c : Int} (h : goodTab D = true) (hl : (l, c) ∈ [([40], (7 : Int)), ([41], 8), ([126], 31), ([45], 15), ([43], 14), ([47, 47], 47), ([62, 62], 34)]) :
    lookup (.str ⟨l.toArray⟩) D = some (.int c) := by
  unfold goodTab at h
  rw [Bool.and_eq_true] at h
  have := (List.all_eq_true.mp h.2) _ hl
  simp only at this
  split at this
  · rename_i i hi
    rw [hi]
    have : i = c := by simpa using this
    rw [this]
  · simp at this
noncomputable def longest (D : List (PyData × PyData)) (l : List Nat) : Nat :=
  if hasKey D (l.take 3) then 3 else if hasKey D (l.take 2) then 2 else if hasKey D (l.take 1) then 1 else 0
noncomputable def tokC (v : Int) : List Nat :=
  if v = 7 then [40] else if v = 8 then [41] else if v = 31 then [126] else if v = 47 then [47, 47] else if v = 15 then [45] else if v = 34 then [62, 62] else if v = 14 then [43] else if v = 1 then [120]
  else [48 + ((v - 256) / 8).toNat, 48 + ((v - 256) % 8).toNat]
noncomputable def renderC (ss : List Int) : List Nat := ss.flatMap tokC
noncomputable def okSym (v : Int) : Prop := v = 7 ∨ v = 8 ∨ v = 31 ∨ v = 47 ∨ v = 15 ∨ v = 34 ∨ v = 14 ∨ v = 1 ∨ (256 ≤ v ∧ v < 320)
noncomputable def okNext (v : Int) (r : List Int) : Prop := (v = 47 ∨ v = 34 ∨ v = 15 ∨ v = 14) → ∃ n r', r = n :: r' ∧ ((256 ≤ n ∧ n < 320) ∨ (v = 47 ∧ n = 15) ∨ (v = 15 ∧ n = 7))
noncomputable def goodSyms : List Int → Prop
  | [] => True
  | v :: r => okSym v ∧ okNext v r ∧ goodSyms r
theorem tok_num {v : Int} (h : 256 ≤ v ∧ v < 320) : tokC v = [48 + ((v - 256) / 8).toNat, 48 + ((v - 256) % 8).toNat] := by
  unfold tokC
  repeat rw [if_neg (by lia)]
/-- how a run of symbols goes on behind an operator -/
theorem render_next {v : Int} {r : List Int} (h : okNext v r) (hv : v = 47 ∨ v = 34 ∨ v = 15 ∨ v = 14) :
    ∃ c cs, renderC r = c :: cs ∧ ((48 ≤ c ∧ c ≤ 57) ∨ (v = 47 ∧ c = 45) ∨ (v = 15 ∧ c = 40)) := by
  obtain ⟨n, r', rfl, hn⟩ := h hv
  rcases hn with hn | ⟨h1, rfl⟩ | ⟨h1, rfl⟩
  · refine ⟨48 + ((n - 256) / 8).toNat, (48 + ((n - 256) % 8).toNat) :: renderC r', ?_, .inl ⟨by lia, by omega⟩⟩
    show tokC n ++ _ = _
    rw [tok_num hn]; rfl
  · exact ⟨45, renderC r', rfl, .inr (.inl ⟨h1, rfl⟩)⟩
  · exact ⟨40, renderC r', rfl, .inr (.inr ⟨h1, rfl⟩)⟩
theorem hasKey_yes {D : List (PyData × PyData)} {l : List Nat} {c : Int} (h : lookup (.str ⟨l.toArray⟩) D = some (.int c)) : hasKey D l = true := by
  unfold hasKey; rw [h]; rfl
theorem one_bracket {D : List (PyData × PyData)} (h : goodTab D = true) {c : Nat} {v : Int} (r : List Nat) (hc : c = 40 ∨ c = 41 ∨ c = 126)
    (hl : lookup (.str ⟨[c].toArray⟩) D = some (.int v)) :
    0 < longest D (c :: r) ∧ lookup (.str ⟨((c :: r).take (longest D (c :: r))).toArray⟩) D = some (.int v) ∧ (c :: r).drop (longest D (c :: r)) = r := by
  cases r with
  | nil =>
    have : longest D [c] = 3 := by
      have e : hasKey D (List.take 3 [c]) = true := hasKey_yes hl
      unfold longest; rw [e]; rfl
    rw [this]; exact ⟨by omega, hl, rfl⟩
  | cons d r =>
    have : longest D (c :: d :: r) = 1 := by
      unfold longest
      rw [hasKey_no h, hasKey_no h, show (c :: d :: r).take 1 = [c] from rfl, hasKey_yes hl]
      · rfl
      · rcases hc with rfl | rfl | rfl <;> simp [okKey]
      · rcases hc with rfl | rfl | rfl <;> simp [okKey]
    rw [this]; exact ⟨by omega, hl, rfl⟩
theorem lex_op {D : List (PyData × PyData)} (h : goodTab D = true) {v : Int} {r : List Int} (hv : okSym v) (hn : okNext v r) (h1 : v ≠ 1) (h2 : v < 256) :
    0 < longest D (renderC (v :: r)) ∧ lookup (.str ⟨((renderC (v :: r)).take (longest D (renderC (v :: r)))).toArray⟩) D = some (.int v) ∧ (renderC (v :: r)).drop (longest D (renderC (v :: r))) = renderC r := by
  show 0 < longest D (tokC v ++ renderC r) ∧ lookup (.str ⟨((tokC v ++ renderC r).take (longest D (tokC v ++ renderC r))).toArray⟩) D = some (.int v) ∧ (tokC v ++ renderC r).drop (longest D (tokC v ++ renderC r)) = renderC r
  rcases hv with rfl | rfl | rfl | rfl | rfl | rfl | rfl | rfl | hv
  · exact one_bracket h _ (by lia) (lookup_code h (by decide))
  · exact one_bracket h _ (by omega) (lookup_code h (by decide))
  · exact one_bracket h _ (by omega) (lookup_code h (by decide))
  · obtain ⟨c, cs, e, hc⟩ := render_next hn (by lia)
    rw [e]
    show 0 < longest D (47 :: 47 :: c :: cs) ∧ lookup (.str ⟨((47 :: 47 :: c :: cs).take (longest D (47 :: 47 :: c :: cs))).toArray⟩) D = _ ∧ (47 :: 47 :: c :: cs).drop (longest D (47 :: 47 :: c :: cs)) = _
    have hl := lookup_code (l := [47, 47]) (c := 47) h (by decide)
    have : longest D (47 :: 47 :: c :: cs) = 2 := by
      unfold longest
      rw [hasKey_no h, show (47 :: 47 :: c :: cs).take 2 = [47, 47] from rfl, hasKey_yes hl]
      · rfl
      · simp [okKey]; omega
    rw [this]; exact ⟨by omega, hl, rfl⟩
  · obtain ⟨c, cs, e, hc⟩ := render_next hn (by omega)
    rw [e]
    show 0 < longest D (45 :: c :: cs) ∧ lookup (.str ⟨((45 :: c :: cs).take (longest D (45 :: c :: cs))).toArray⟩) D = _ ∧ (45 :: c :: cs).drop (longest D (45 :: c :: cs)) = _
    have hl := lookup_code (l := [45]) (c := 15) h (by decide)
    have : longest D (45 :: c :: cs) = 1 := by
      unfold longest
      rw [hasKey_no h, hasKey_no h, show (45 :: c :: cs).take 1 = [45] from rfl, hasKey_yes hl]
      · rfl
      · simp [okKey]; omega
      · cases cs <;> simp [okKey] <;> omega
    rw [this]; exact ⟨by omega, hl, rfl⟩
  · obtain ⟨c, cs, e, hc⟩ := render_next hn (by lia)
    rw [e]
    show 0 < longest D (62 :: 62 :: c :: cs) ∧ lookup (.str ⟨((62 :: 62 :: c :: cs).take (longest D (62 :: 62 :: c :: cs))).toArray⟩) D = _ ∧ (62 :: 62 :: c :: cs).drop (longest D (62 :: 62 :: c :: cs)) = _
    have hl := lookup_code (l := [62, 62]) (c := 34) h (by decide)
    have : longest D (62 :: 62 :: c :: cs) = 2 := by
      unfold longest
      rw [hasKey_no h, show (62 :: 62 :: c :: cs).take 2 = [62, 62] from rfl, hasKey_yes hl]
      · rfl
      · simp [okKey]; omega
    rw [this]; exact ⟨by omega, hl, rfl⟩
  · obtain ⟨c, cs, e, hc⟩ := render_next hn (by omega)
    rw [e]
    show 0 < longest D (43 :: c :: cs) ∧ lookup (.str ⟨((43 :: c :: cs).take (longest D (43 :: c :: cs))).toArray⟩) D = _ ∧ (43 :: c :: cs).drop (longest D (43 :: c :: cs)) = _
    have hl := lookup_code (l := [43]) (c := 14) h (by decide)
    have : longest D (43 :: c :: cs) = 1 := by
      unfold longest
      rw [hasKey_no h, hasKey_no h, show (43 :: c :: cs).take 1 = [43] from rfl, hasKey_yes hl]
      · rfl
      · simp [okKey]; omega
      · cases cs <;> simp [okKey] <;> omega
    rw [this]; exact ⟨by omega, hl, rfl⟩
  · exact absurd rfl h1
  · omega
theorem okKey_bad {c : Nat} (r : List Nat) (hc : c = 120 ∨ (48 ≤ c ∧ c ≤ 57)) : okKey (c :: r) = false := by
  have e : (!(decide (48 ≤ c) && decide (c ≤ 57)) && c != 120) = false := by
    rcases hc with rfl | ⟨h1, h2⟩
    · rfl
    · rw [decide_eq_true h1, decide_eq_true h2]; rfl
  unfold okKey
  rw [List.all_cons, e]
  rfl
theorem lex_none {D : List (PyData × PyData)} (h : goodTab D = true) {c : Nat} (r : List Nat) (hc : c = 120 ∨ (48 ≤ c ∧ c ≤ 57)) : longest D (c :: r) = 0 := by
  show (if hasKey D (c :: r.take 2) = true then 3 else if hasKey D (c :: r.take 1) = true then 2 else if hasKey D (c :: r.take 0) = true then 1 else 0) = 0
  rw [hasKey_no h (okKey_bad _ hc), hasKey_no h (okKey_bad _ hc), hasKey_no h (okKey_bad _ hc)]
  rfl
end Mine
end SPl7
section SLoops
open PySem PySem.W PyProof.Rows PySem.Calls PySem.Spec PyProof.V
namespace Mine
noncomputable def AllNe (d : Nat) : List (Addr × Obj) → Prop
  | [] => True
  | p :: r => @Ne Nat p.1 d ∧ AllNe d r
theorem allNe_of {d : Addr} : ∀ {l : List (Addr × Obj)}, (∀ p ∈ l, p.1 ≠ d) → AllNe d l
  | [], _ => trivial
  | p :: _, h => ⟨h p (.head _), allNe_of fun q hq => h q (.tail _ hq)⟩
section
variable {prog : Program} {w : World} {A : Around} {E : Value → Shared → Prop} {s : Shared} {env : Env} {h₀ : Heap} {target : Expr} {body : List Stmt} {Q : Flow → Shared → Prop}

/-- the end of a turn -/
noncomputable def TurnEnd (h₀ : Heap) (L : Addr) (I : Addr) (it : Obj) (lp : Addr × Obj) (J : (Str → Option Value) → List (Addr × Obj) → Prop) (s : Shared) (Q : Flow → Shared → Prop) (f : Flow) (s' : Shared) : Prop :=
  match f with
  | .ret v => Q (.ret v) s'
  | .brk => Q .next s'
  | _ => ∃ h' tk m' news', s' = { s with heap := h', toks := tk } ∧ Fr h₀ L h' m' ∧ News h₀ L h' ((I, it) :: lp :: news') ∧ (∀ q ∈ news', q.1 ≠ I) ∧ J m' news'

theorem turns_of {I : Addr} {lp : Addr × Obj} {n : Nat} {P : Nat → Value → Prop} {St : Nat → Heap → Prop} {cn : String} {it0 : Obj} {m : Str → Option Value} {news : List (Addr × Obj)}
    (W : Walks prog w A I [I, lp.1] [I] n P St) (hgo : ∀ i v (s : Shared) (Q : Unit → Shared → Prop) (E : Value → Shared → Prop), St i s.heap → Q () s → wpAny (model prog w) A (letOwnedTupleGo target (.ref I) v) Q E s)
    (hcls : ∀ i h, St i h → ∃ it, h.get? I = some it ∧ it.cls = .type cn) (F : Fr h₀ env.locals s.heap m) (N : News h₀ env.locals s.heap ((I, it0) :: lp :: news)) (hne : lp.1 ≠ I) (off : ∀ q ∈ news, q.1 ≠ I)
    (hst : St 0 s.heap) (J : Nat → (Str → Option Value) → List (Addr × Obj) → Prop) (h0 : J 0 m news)
    (turn : ∀ i v m₁ news₁ it h tk, i < n → P i v → J i m₁ news₁ → it.cls = .type cn → (∀ q ∈ news₁, q.1 ≠ I) → Fr h₀ env.locals h m₁ → News h₀ env.locals h ((I, it) :: lp :: news₁) →
      wpAny (model prog w) A (assign target env v) (fun _ s₃ => wpAny (model prog w) A (execs body env) (TurnEnd h₀ env.locals I it lp (J (i + 1)) { s with heap := h, toks := tk } Q) E s₃) E { s with heap := h, toks := tk })
    (done : ∀ m₁ news₁ h tk, J n m₁ news₁ → Fr h₀ env.locals h m₁ → News h₀ env.locals h (lp :: news₁) → Q .next { s with heap := h, toks := tk }) :
    TurnsAt prog w A h₀ env target body Q E (.ref I) s := by
  have hIx := N _ (.head _)
  have hlx := N _ (.tail _ (.head _))
  refine ⟨I, [I, lp.1], [I], n, _, _, St, m, lp :: news, fun i m₁ n₁ => ∃ n₂, n₁ = lp :: n₂ ∧ J i m₁ n₂, rfl, KTurns.ofWalks W hgo, ?_, ?_, ?_, hst, F, (fun q hq => N q (.tail _ hq)), ⟨_, rfl, h0⟩, ?_, ?_⟩
  · intro hm
    rcases List.mem_cons.mp hm with e | hm
    · exact hIx.2.1 e.symm
    · exact hlx.2.1 (List.mem_singleton.mp hm).symm
  · intro b hb
    rw [List.mem_singleton.mp hb]; exact hIx.2.2
  · intro q hq hI
    have hI := List.mem_singleton.mp hI
    rcases List.mem_cons.mp hq with rfl | hq
    · exact hne hI
    · exact off q hq hI
  · rintro i v m₁ news₁ h₁ tk₁ own hi hP ⟨n₂, rfl, hJ⟩ hofs hown hget hall hst F₁ N₁
    obtain ⟨it, hit, hic⟩ := hcls _ _ hst
    have hmI := hall I (.head _) hIx.2.2 _ hit
    have N₂ : News h₀ env.locals h₁ ((I, it) :: lp :: n₂) := fun q hq => by
      rcases List.mem_cons.mp hq with rfl | hq
      · exact N₁ _ (List.mem_append_left _ hmI)
      · exact N₁ _ (List.mem_append_right _ hq)
    have hofs' : ∀ q ∈ n₂, q.1 ≠ I := fun q hq e => hofs q (.tail _ hq) (by rw [e]; exact .head _)
    refine wpAny_mono (turn i v m₁ n₂ it h₁ tk₁ hi hP hJ hic hofs' F₁ N₂) (fun _ s₃ h₃ => wpAny_mono h₃ (fun f s₄ p => ?_) fun _ _ e => e) fun _ _ e => e
    have fin : (∃ h' tk m' news', s₄ = { s with heap := h', toks := tk } ∧ Fr h₀ env.locals h' m' ∧ News h₀ env.locals h' ((I, it) :: lp :: news') ∧ (∀ q ∈ news', q.1 ≠ I) ∧ J (i + 1) m' news') →
        LoopStepU h₀ env.locals [I] own (fun m₁ n₁ => ∃ n₂, n₁ = lp :: n₂ ∧ J (i + 1) m₁ n₂) { s with heap := h₁, toks := tk₁ } .next s₄ := by
      rintro ⟨h', tk, m', news', e, F', N', ho, r⟩
      refine ⟨rfl, h', tk, m', lp :: news', e, F', fun q hq => ?_, fun q hq hI => ?_, _, rfl, r⟩
      · rcases List.mem_append.mp hq with hq | hq
        · have h2 : h₁.get? q.1 = some q.2 := hget q hq
          rcases List.mem_cons.mp (hown q hq) with h1 | h1
          · have h3 : q = (I, it) := by
              rw [h1, hit] at h2
              exact Prod.ext h1 (Option.some.inj h2).symm
            rw [h3]; exact N' _ (.head _)
          · have h1' : q.1 = lp.1 := List.mem_singleton.mp h1
            have h3 : q = lp := by
              rw [h1', (N₂ lp (.tail _ (.head _))).1] at h2
              exact Prod.ext h1' (Option.some.inj h2).symm
            rw [h3]; exact N' _ (.tail _ (.head _))
        · exact N' _ (.tail _ hq)
      · have hI := List.mem_singleton.mp hI
        rcases List.mem_cons.mp hq with rfl | hq
        · exact hne hI
        · exact ho q hq hI
    cases f with
    | ret v => exact .ret p
    | brk => exact .brk p
    | next => exact .next (fin p)
    | cont => exact .cont (fin p)
  · rintro h' tk m' news' F' N' _ ⟨n₂, rfl, hJ⟩
    exact done m' n₂ h' tk hJ F' N'

theorem go_list {I l : Addr} : ∀ i v (s : Shared) (Q : Unit → Shared → Prop) (E : Value → Shared → Prop), (s.heap.IsListIter I l i) → Q () s → wpAny (model prog w) A (letOwnedTupleGo target (.ref I) v) Q E s := by
  intro i v s Q E hit hQ
  cases target with
  | Tuple elts k pos =>
    cases v with
    | ref T => exact wpAny_letOwnedTupleGo_listiter hit hQ
    | _ => exact wpAny_pure hQ
  | List elts pos =>
    cases v with
    | ref T => exact wpAny_letOwnedTupleGo_listiter (x1 := 0) (elts := elts) (pos := pos) hit hQ
    | _ => exact wpAny_pure hQ
  | _ => exact wpAny_pure hQ

/-- a for over a list that stands in the ledger, whatever the target -/
theorem iter_list {l : Addr} {vs : List Value} {nd : Nat} {m : Str → Option Value} {news : List (Addr × Obj)}
    (hh : A.handled = none) (F : Fr h₀ env.locals s.heap m) (N : News h₀ env.locals s.heap ((l, lstObj vs nd) :: news))
    (J : Nat → (Str → Option Value) → List (Addr × Obj) → Prop) (h0 : J 0 m news)
    (turn : ∀ I i v m₁ news₁ it h tk, vs[i]? = some v → J i m₁ news₁ → it.cls = .type "list_iterator" → (∀ q ∈ news₁, q.1 ≠ I) → l ≠ I → Fr h₀ env.locals h m₁ → News h₀ env.locals h ((I, it) :: (l, lstObj vs nd) :: news₁) →
      wpAny (model prog w) A (assign target env v) (fun _ s₃ => wpAny (model prog w) A (execs body env) (TurnEnd h₀ env.locals I it (l, lstObj vs nd) (J (i + 1)) { s with heap := h, toks := tk } Q) E s₃) E { s with heap := h, toks := tk })
    (done : ∀ m₁ news₁ h tk, J vs.length m₁ news₁ → Fr h₀ env.locals h m₁ → News h₀ env.locals h ((l, lstObj vs nd) :: news₁) → Q .next { s with heap := h, toks := tk }) :
    wpAny (model prog w) A (pyIter (.ref l)) (fun it s₂ => TurnsAt prog w A h₀ env target body Q E it s₂) E s := by
  have hlx := N _ (.head _)
  have hls : s.heap.IsList l vs.toArray := ⟨_, hlx.1, rfl, nd, rfl⟩
  have hne : l ≠ s.heap.objs.size := Nat.ne_of_lt (Heap.lt_size hlx.1)
  refine wpAny_pyIter_list hls ?_
  have Wk := Walks.list (prog := prog) (w := w) hh s.heap.objs.size l hne vs.toArray
  have hlen : vs.toArray.size = vs.length := by simp
  rw [hlen] at Wk
  refine turns_of (lp := (l, lstObj vs nd)) (cn := "list_iterator") Wk (fun i v s' Q E hst hQ => go_list i v s' Q E hst.1 hQ) (fun i h hst => ?_) (F.push _) (News.push F N _) hne (fun q hq => Nat.ne_of_lt (Heap.lt_size (N q (.tail _ hq)).1))
    ⟨⟨_, Heap.get?_push_size _ rfl, rfl, rfl⟩, hls.at fun o e => Heap.get?_push_of_some _ e⟩ J h0
    (fun i v m₁ news₁ it h tk hi hP hJ hic hof F₁ N₁ => turn _ i v m₁ news₁ it h tk (by simpa using hP) hJ hic hof hne F₁ N₁) done
  obtain ⟨o, ho, hc, _⟩ := hst.1
  exact ⟨o, ho, hc⟩

/-- a for, its target a name, over reversed of a list that stands in the ledger -/
theorem iter_rev {I l : Addr} {vs : List Value} {nd : Nat} {x : Str} {px : Pos} {m : Str → Option Value} {news : List (Addr × Obj)}
    (hh : A.handled = none) (F : Fr h₀ env.locals s.heap m) (N : News h₀ env.locals s.heap ((I, revObj l ((vs.length : Int) - 1)) :: (l, lstObj vs nd) :: news)) (off : ∀ q ∈ news, q.1 ≠ I)
    (J : Nat → (Str → Option Value) → List (Addr × Obj) → Prop) (h0 : J 0 m news)
    (turn : ∀ i v m₁ news₁ it h tk, vs.reverse[i]? = some v → J i m₁ news₁ → it.cls = .type "list_reverseiterator" → (∀ q ∈ news₁, q.1 ≠ I) → l ≠ I → Fr h₀ env.locals h m₁ → News h₀ env.locals h ((I, it) :: (l, lstObj vs nd) :: news₁) →
      wpAny (model prog w) A (assign (.Name x px) env v) (fun _ s₃ => wpAny (model prog w) A (execs body env) (TurnEnd h₀ env.locals I it (l, lstObj vs nd) (J (i + 1)) { s with heap := h, toks := tk } Q) E s₃) E { s with heap := h, toks := tk })
    (done : ∀ m₁ news₁ h tk, J vs.length m₁ news₁ → Fr h₀ env.locals h m₁ → News h₀ env.locals h ((l, lstObj vs nd) :: news₁) → Q .next { s with heap := h, toks := tk }) :
    wpAny (model prog w) A (pyIter (.ref I)) (fun it s₂ => TurnsAt prog w A h₀ env (.Name x px) body Q E it s₂) E s := by
  have hIx := N _ (.head _)
  have hlx := N _ (.tail _ (.head _))
  have hls : s.heap.IsList l vs.toArray := ⟨_, hlx.1, rfl, nd, rfl⟩
  have hne : l ≠ I := fun e => by
    have h1 := hlx.1
    simp only [e] at h1
    rw [hIx.1] at h1
    have := congrArg Obj.cls (Option.some.inj h1)
    simp [revObj] at this
  have hit : s.heap.IsRevIter I l ((vs.length : Int) - 1) := ⟨_, hIx.1, rfl, rfl⟩
  refine wpAny_pyIter_revIter hit ?_
  have Wk := Walks.listRev (prog := prog) (w := w) hh I l hne vs.toArray
  have hlen : vs.toArray.size = vs.length := by simp
  rw [hlen] at Wk
  refine turns_of (lp := (l, lstObj vs nd)) (cn := "list_reverseiterator") Wk (fun i v s' Q E hst hQ => wpAny_pure hQ) (fun i h hst => ?_) F N hne off
    ⟨Nat.zero_le _, by simpa using hit, hls⟩ J h0
    (fun i v m₁ news₁ it h tk hi hP hJ hic hof F₁ N₁ => turn i v m₁ news₁ it h tk ?_ hJ hic hof hne F₁ N₁) done
  · obtain ⟨o, ho, hc, _⟩ := hst.2.1
    exact ⟨o, ho, hc⟩
  · rw [List.getElem?_reverse hi]
    simpa using hP

theorem fr_known {h : Heap} {L : Addr} {m₁ : Str → Option Value} {ps : List (Str × Value)} (hk : ∀ q ∈ ps, m₁ q.1 = some q.2) (F : Fr h₀ L h m₁) : Fr h₀ L h (kstB m₁ ps) := by
  have e : kstB m₁ ps = m₁ := by
    funext y
    exact kstB_eq hk fun _ => rfl
  rw [e]; exact F
end
end Mine
end SLoops
section SLoops2
open PySem PySem.W PyProof.Rows PySem.Calls PySem.Spec PyProof.V
namespace Mine
section
variable {prog : Program} {w : World} {A : Around} {E : Value → Shared → Prop} {s : Shared} {env : Env} {h₀ : Heap} {target : Expr} {body : List Stmt} {Q : Flow → Shared → Prop}

/-- a for over a list that stands in the ledger, whatever the target -/
theorem iter_list2 {l : Addr} {vs : List Value} {nd : Nat} {m : Str → Option Value} {news : List (Addr × Obj)}
    (hh : A.handled = none) (F : Fr h₀ env.locals s.heap m) (N : News h₀ env.locals s.heap ((l, lstObj vs nd) :: news))
    (J : Nat → (Str → Option Value) → List (Addr × Obj) → Prop) (h0 : J 0 m news)
    (turn : ∀ I i v m₁ news₁ it h tk, vs[i]? = some v → J i m₁ news₁ → it.cls = .type "list_iterator" → (∀ q ∈ news₁, q.1 ≠ I) → (∀ q ∈ (l, lstObj vs nd) :: news, q.1 < I) → Fr h₀ env.locals h m₁ → News h₀ env.locals h ((I, it) :: (l, lstObj vs nd) :: news₁) →
      wpAny (model prog w) A (assign target env v) (fun _ s₃ => wpAny (model prog w) A (execs body env) (TurnEnd h₀ env.locals I it (l, lstObj vs nd) (J (i + 1)) { s with heap := h, toks := tk } Q) E s₃) E { s with heap := h, toks := tk })
    (done : ∀ m₁ news₁ h tk, J vs.length m₁ news₁ → Fr h₀ env.locals h m₁ → News h₀ env.locals h ((l, lstObj vs nd) :: news₁) → Q .next { s with heap := h, toks := tk }) :
    wpAny (model prog w) A (pyIter (.ref l)) (fun it s₂ => TurnsAt prog w A h₀ env target body Q E it s₂) E s := by
  have hlx := N _ (.head _)
  have hls : s.heap.IsList l vs.toArray := ⟨_, hlx.1, rfl, nd, rfl⟩
  have hne : l ≠ s.heap.objs.size := Nat.ne_of_lt (Heap.lt_size hlx.1)
  refine wpAny_pyIter_list hls ?_
  have Wk := Walks.list (prog := prog) (w := w) hh s.heap.objs.size l hne vs.toArray
  have hlen : vs.toArray.size = vs.length := by simp
  rw [hlen] at Wk
  refine turns_of (lp := (l, lstObj vs nd)) (cn := "list_iterator") Wk (fun i v s' Q E hst hQ => go_list i v s' Q E hst.1 hQ) (fun i h hst => ?_) (F.push _) (News.push F N _) hne (fun q hq => Nat.ne_of_lt (Heap.lt_size (N q (.tail _ hq)).1))
    ⟨⟨_, Heap.get?_push_size _ rfl, rfl, rfl⟩, hls.at fun o e => Heap.get?_push_of_some _ e⟩ J h0
    (fun i v m₁ news₁ it h tk hi hP hJ hic hof F₁ N₁ => turn _ i v m₁ news₁ it h tk (by simpa using hP) hJ hic hof (fun q hq => Heap.lt_size (N q hq).1) F₁ N₁) done
  obtain ⟨o, ho, hc, _⟩ := hst.1
  exact ⟨o, ho, hc⟩

end
end Mine
end SLoops2
section ST71
open PySem PySem.W PyProof.Rows PySem.Calls PySem.Spec
namespace Mine
theorem fillT : (hd.heap_1 = hd.heap_1 ∧ PySem.Challenge.rw_rs0186_01 = PySem.Challenge.rw_rs0186_01) := by
  k_fill
  w_top off
  exact ⟨rfl, rfl⟩
set_option maxRecDepth 100000 in
set_option maxHeartbeats 8000000 in
/-- the table of the operators, as it stands below -/
theorem with71 {α : Type} {prog : Program} {w : World} {A : Around} {p : Program} {loose : List Str} {mean : ExcName → Option Value} {mg mb : Str → Option Value} {h₀ : Heap} {L : Addr} {m : Str → Option Value} {s : Shared} {t : Sem α} {Q : α → Shared → Prop} {E : Value → Shared → Prop}
    (F : Fr h₀ L s.heap m) (X : (hd.heap_1 w.params).In h₀) (T : Top p loose mean mg mb h₀)
    (h : ∀ D, goodTab D = true → StrTab prog w h₀ 71 D → wpAny (model prog w) A t Q E s) : wpAny (model prog w) A t Q E s := by
  intro Γ q hΓ
  have k : wpAny (model prog w) A (pure (Value.ref 71)) (fun _ _ => ∃ D, goodTab D = true ∧ StrTab prog w h₀ 71 D) E s := by
    kt_k
    exact wpAny_pure ⟨_, by decide +kernel, ktt9⟩
  obtain ⟨D, hD, TD⟩ := k Γ q hΓ
  exact h D hD TD Γ q hΓ
end Mine
end ST71
section SC1
open PySem PySem.W PyProof.Rows PySem.Calls PySem.Spec
namespace Mine
theorem fill1 : (hd.heap_1 = hd.heap_1 ∧ PySem.Challenge.rw_rs0186_01 = PySem.Challenge.rw_rs0186_01) := by
  k_fill
  w_top off
  exact ⟨rfl, rfl⟩

theorem bits50 {x : Int} (h0 : 0 ≤ x) (h : x < 1000000000000000) : (Builtin.Int.intBits x : Int) ≤ 50 := by
  have e : (2:Nat)^50 = 1125899906842624 := by decide
  have : Builtin.Int.intBits x ≤ 50 := intBits_le_iff.mpr (by rw [e]; omega)
  omega

set_option maxRecDepth 100000 in
set_option maxHeartbeats 8000000 in
theorem div2n1n_con {prog : Program} {w : World} {p : Program} {loose : List Str} {mean : ExcName → Option Value} {mg mb : Str → Option Value}
    {dp un : Nat} {gd : Option (List Code)} {env : Env} {outer : List Env} {A₀ : Around} {base h₀ : Heap} {L : Addr} {m : Str → Option Value} {s : Shared}
    {Q E : Value → Shared → Prop} {x b n : Int} {tx tb tn : Tok}
    (B : Below A₀ base outer h₀) (F : Fr h₀ L s.heap m) (X : (hd.heap_1 w.params).In h₀) (T : Top p loose mean mg mb h₀) (hf : env.frame = some L) (hke : env.scope.kind = .function)
    (hdp : dp ≤ 500) (hun : un ≤ 1000)
    (hb : 0 < b) (hbs : b < 1073741824) (hx : 0 ≤ x) (hx' : x < 1000000000000000) (hn : 0 ≤ n)
    (hret : ∀ q t1 t2 h' tk', Fr h₀ L h' m → News h₀ L h' [(q, tupObj [.int (x / b) t1, .int (x % b) t2])] → Kept [] s.heap h' → s.heap.get? q = none → Q (.ref q) { s with heap := h', toks := tk' }) :
    wpAny (model prog w) (at_ dp un gd env outer) (call (.ref 21) [.int x tx, .int b tb, .int n tn]) Q E s := by
  have hbits := bits50 hx hx'
  refine' call_need (need := []) (P := fun v news => ∃ q t1 t2, v = .ref q ∧ (q, tupObj [.int (x.fdiv b) t1, .int (x.fmod b) t2]) ∈ news) B F X (fun _ h => nomatch h) T
    (by exact rfl) hf hke (by show dp < recursionLimit; simp only [recursionLimit]; omega) (by k_is) (by k_is) (by exact rfl) (by exact rfl) (by exact rfl) (by exact rfl) (by exact rfl) (by decide) ?hret ?h
  case hret =>
    rintro v h' tk news' ⟨q, t1, t2, rfl, hq⟩ F' N' hk hfr
    rw [Int.fdiv_eq_ediv_of_nonneg _ (by omega), Int.fmod_eq_emod_of_nonneg _ (by omega)] at hq
    exact hret q t1 t2 h' tk F' (News.sub N' (by simpa using hq)) hk ((hfr _ hq).elim (fun h => nomatch h) id)
  intro g L' h₁ tk hkp hlt F' N' B' X' T'
  k_fold
  k_steps
  exact ⟨_, _, _, _, rfl, by assumption, by assumption, _, _, _, rfl, by k_mem⟩
end Mine
end SC1
section SC2
open PySem PySem.W PyProof.Rows PySem.Calls PySem.Spec
namespace Mine
theorem fill2 : (hd.heap_1 = hd.heap_1 ∧ PySem.Challenge.rw_rs0186_01 = PySem.Challenge.rw_rs0186_01) := by
  k_fill
  w_top off
  exact ⟨rfl, rfl⟩

theorem truthy_lst {prog : Program} {w : World} {A : Around} {h₀ : Heap} {L : Addr} {s : Shared} {news : List (Addr × Obj)} {l : Addr} {vs : List Value} {n : Nat} {Q : Bool → Shared → Prop} {E : Value → Shared → Prop}
    (N : News h₀ L s.heap news) (hm : (l, lstObj vs n) ∈ news) (hz : vs.length ≤ 100000)
    (h : Q (!vs.isEmpty) { s with toks := s.toks + 1 + 1 }) : wpAny (model prog w) A (truthy (.ref l)) Q E s :=
  wpAny_truthy_list (items := vs.toArray) ⟨_, N.get hm, rfl, n, rfl⟩ (by simp; omega) (by simpa using h)

theorem item_lst {prog : Program} {w : World} {A : Around} {h₀ : Heap} {L : Addr} {s : Shared} {news : List (Addr × Obj)} {value slice : PySem.Expr} {l : Addr} {vs : List Value} {n : Nat} {k : Int} {u : Tok} {v : Value} {Q : Value → Shared → Prop} {E : Value → Shared → Prop}
    (N : News h₀ L s.heap news) (hm : (l, lstObj vs n) ∈ news) (h0 : 0 ≤ k) (hhi : k < 2 ^ 63) (hx : vs[k.toNat]? = some v) (h : Q v s)
    (hs : subscripted slice false (.ref l) (.int k u) = operate [.ref l, .int k u] (getItem (.ref l) (.int k u)) := by with_unfolding_all rfl) :
    wpAny (model prog w) A (subscriptTail value slice (.ref l) (.int k u)) Q E s :=
  have hl : s.heap.IsList l vs.toArray := ⟨_, N.get hm, rfl, n, rfl⟩
  tail_any hl.typeIs slot_list_getitem.lookup (wpAny_getItem_list hl h0 hhi (by simpa using hx) h) hs

theorem lshift_bits {prog : Program} {w : World} {A : Around} {s : Shared} {Q E : Value → Shared → Prop} {a n : Int} {t u : Tok} (hb : Builtin.Int.intBits a ≤ 10000) (h0 : 0 ≤ n) (h1 : n ≤ 10000)
    (h : Q (.int (a * 2 ^ n.toNat) s.toks) { s with toks := s.toks + 1 }) : wpAny (model prog w) A (binaryOp .LShift (.int a t) (.int n u)) Q E s :=
  lshift_int h0 (by lia) h

section
variable (prog : Program) (w : World) (p : Program) (loose : List Str) (mean : ExcName → Option Value) (mg mb : Str → Option Value)
noncomputable def D2I (need : List (Addr × Obj)) (f : Addr) (ds : List Int) (n : Nat) (k : Nat) : Prop :=
  ∀ {dp un : Nat} {gd : Option (List Code)} {env : Env} {outer : List Env} {A₀ : Around} {base h₀ : Heap} {L : Addr} {m : Str → Option Value} {s : Shared} {news : List (Addr × Obj)}
    {Q E : Value → Shared → Prop} {l r : Int} {tl tr : Tok},
    Below A₀ base outer h₀ → Fr h₀ L s.heap m → (hd.heap_1 w.params).In h₀ → Top p loose mean mg mb h₀ → env.frame = some L → env.scope.kind = .function →
    News h₀ L s.heap news → (∀ q ∈ need, q ∈ news) →
    dp + k ≤ 700 → un + 10 * k ≤ 5000 → 0 ≤ l → l < r → r ≤ ds.length → r - l ≤ k →
    (∀ t h' tk', Fr h₀ L h' m → News h₀ L h' news → Kept [] s.heap h' → Q (.int (dval n ((ds.drop l.toNat).take (r - l).toNat)) t) { s with heap := h', toks := tk' }) →
    wpAny (model prog w) (at_ dp un gd env outer) (call (.ref f) [.int l tl, .int r tr]) Q E s
end

theorem d2i_rec {prog : Program} {w : World} {p : Program} {loose : List Str} {mean : ExcName → Option Value} {mg mb : Str → Option Value} {need : List (Addr × Obj)} {f : Addr} {ds : List Int} {n : Nat}
    (step : ∀ k, D2I prog w p loose mean mg mb need f ds n k → D2I prog w p loose mean mg mb need f ds n (k + 1)) : ∀ k, D2I prog w p loose mean mg mb need f ds n k
  | 0 => fun _ _ _ _ _ _ _ _ _ _ _ _ h1 _ h2 _ => by omega
  | k + 1 => step k (d2i_rec step k)

theorem d2i_use {prog : Program} {w : World} {p : Program} {loose : List Str} {mean : ExcName → Option Value} {mg mb : Str → Option Value} {f : Addr} {ds : List Int} {n : Nat}
    {dp un : Nat} {gd : Option (List Code)} {env : Env} {outer : List Env} {A₀ : Around} {base h₀ : Heap} {L : Addr} {m : Str → Option Value} {s : Shared} {news : List (Addr × Obj)}
    {Q E : Value → Shared → Prop} {tl tr : Tok}
    (N : News h₀ L s.heap news) (H : ∀ k, D2I prog w p loose mean mg mb news f ds n k)
    (B : Below A₀ base outer h₀) (F : Fr h₀ L s.heap m) (X : (hd.heap_1 w.params).In h₀) (T : Top p loose mean mg mb h₀) (hf : env.frame = some L) (hke : env.scope.kind = .function)
    (hdp : dp ≤ 550) (hun : un ≤ 3000) (hds : 0 < ds.length) (hds' : ds.length ≤ 100)
    (hret : ∀ t h' tk', Fr h₀ L h' m → News h₀ L h' news → Kept [] s.heap h' → Q (.int (dval n ds) t) { s with heap := h', toks := tk' }) :
    wpAny (model prog w) (at_ dp un gd env outer) (call (.ref f) [.int 0 tl, .int ds.length tr]) Q E s := by
  refine H ds.length B F X T hf hke N (fun _ h => h) (by omega) (by lia) (by omega) (by omega) (by omega) (by omega) ?_
  simpa using hret

theorem int_eq {a b : Int} {t : Tok} (h : a = b) : Value.int a t = Value.int b t := by rw [h]

/-- a code's table of inner defs: empty, or with the one code made -/
noncomputable def TabIs (line col : Int) (qual : Str) (ps : Array Value) (ex : List (Addr × Obj)) : Prop :=
  (ps = #[] ∧ ex = []) ∨ ∃ c oc vs t, ps = #[rawInt line, rawInt col, .ref c] ∧ ex = [(c, oc)] ∧ oc.data = .fields vs ∧ vs[1]? = some (.str qual t)
noncomputable abbrev qD2I : Str := Str.ofString "_digits2int" ++ Str.ofString ".<locals>." ++ Str.ofString "inner"

theorem CodeHd.kept {h h' : Heap} {c P : Addr} (C : CodeHd h c P) (k : h.StaysIn h') : CodeHd h' c P := C.keeps k

local macro_rules | `(tactic| walk_at "binaryOp LShift int int") => `(tactic| (with_reducible refine lshift_bits ?b ?n ?m ?_; (case b => assumption); (case n => assumption); (case m => assumption)))
set_option maxRecDepth 100000 in
set_option maxHeartbeats 8000000 in
theorem digits2int_con {prog : Program} {w : World} {p : Program} {loose : List Str} {mean : ExcName → Option Value} {mg mb : Str → Option Value}
    {dp un : Nat} {gd : Option (List Code)} {env : Env} {outer : List Env} {A₀ : Around} {base h₀ : Heap} {L : Addr} {m : Str → Option Value} {s : Shared}
    {Q E : Value → Shared → Prop} {d : Addr} {ds : List Int} {vs : List Value} {nd : Nat} {n : Nat} {tn : Tok} {ps : Array Value} {ex : List (Addr × Obj)}
    (B : Below A₀ base outer h₀) (F : Fr h₀ L s.heap m) (X : (hd.heap_1 w.params).In h₀) (T : Top p loose mean mg mb h₀) (hf : env.frame = some L) (hke : env.scope.kind = .function)
    (hdp : dp ≤ 500) (hun : un ≤ 1000) (N : News h₀ L s.heap ((d, lstObj vs nd) :: (37, tabObj ps) :: ex)) (hT : TabIs 47 4 qD2I ps ex) (C37 : CodeHd h₀ 41 37) (hvs : IntsAre vs ds) (hlen : ds.length ≤ 100) (hn : n ≤ 100) (hds : ∀ x ∈ ds, 0 ≤ x ∧ x < 2 ^ n)
    (hret : ∀ t h' tk' ps' ex', Fr h₀ L h' m → News h₀ L h' ((d, lstObj vs nd) :: (37, tabObj ps') :: ex') → TabIs 47 4 qD2I ps' ex' → ps' ≠ #[] → Kept [(37, tabObj #[])] s.heap h' → (ps ≠ #[] → Kept [] s.heap h' ∧ ps' = ps ∧ ex' = ex) →
      Q (.int (dval n ds) t) { s with heap := h', toks := tk' }) :
    wpAny (model prog w) (at_ dp un gd env outer) (call (.ref 42) [.ref d, .int n tn]) Q E s := by
  have hlen' : vs.length ≤ 100 := by rw [hvs.length]; exact hlen
  have hd37 : d ≠ 37 := fun e => by
    have h1 := (N _ (.head _)).1
    have h2 := (N _ (.tail _ (.head _))).1
    simp only [e] at h1
    rw [h1] at h2; cases h2
  refine' call_cells_need (need := _) (P := fun v news' => (∃ t, v = .int (dval n ds) t) ∧ ∃ ps' ex', (∀ q ∈ ((d, lstObj vs nd) :: (37, tabObj ps') :: ex'), q ∈ news') ∧ TabIs 47 4 qD2I ps' ex' ∧ ps' ≠ #[] ∧ (ps ≠ #[] → ps' = ps ∧ ex' = ex)) B F X N T
    (by exact rfl) hf hke (by show dp < recursionLimit; simp only [recursionLimit]; omega) (by k_is) (by k_is) (by exact rfl) (by exact rfl) (by decide) (by exact rfl) (by exact rfl) (by exact rfl) ?hret ?h
  case hret =>
    rintro v h' tk' news' ⟨⟨t, rfl⟩, ps', ex', hs, hT', hne, heq⟩ F' N' K' _
    have N2 := News.sub N' hs
    have kk : ps ≠ #[] → Kept [] s.heap h' := fun h => by
      obtain ⟨rfl, rfl⟩ := heq h
      exact kept_all N N' hs K'
    refine hret t h' tk' ps' ex' F' N2 hT' hne (fun b o hb e => ?_) fun h => ⟨kk h, heq h⟩
    by_cases hp : ps = #[]
    · obtain ⟨_, rfl⟩ : ps = #[] ∧ ex = [] := hT.resolve_right fun ⟨c, oc, vs, t, e, _⟩ => by rw [hp] at e; cases e
      by_cases hbd : b = d
      · subst hbd
        have := (N _ (.head _)).1
        rw [e] at this; cases this
        exact (N2 _ (.head _)).1
      · exact K' b o (by simp at hb ⊢; exact ⟨hbd, hb⟩) e
    · exact kk hp b o (fun h => nomatch h) e
  intro g L' h₁ tk cells hkp hlt F' N' Y B' X' T'
  replace C37 : CodeHd g 41 37 := C37.keeps fun b o e => hkp b o (fun hb => by
    obtain ⟨q, hq, rfl⟩ := List.mem_map.mp hb
    have := (N q hq).2.2; rw [e] at this; cases this) (F.keep b o e)
  clear F N X T B
  rcases hT with ⟨rfl, rfl⟩ | ⟨c, oc, vs, t, rfl, rfl, hocd, hocv⟩
  all_goals (
    k_lt hlt
    k_cells Y
    simp only [List.cons_append, List.nil_append] at N'
    try dsimp only
    show wpAny _ _ _ _ _ _
    k_fold
    k_steps
    rotate_left
    · have hd0 : ds = [] := List.length_eq_zero_iff.mp (by omega)
      refine ⟨_, _, _, _, rfl, by assumption, by assumption, ⟨_, int_eq (by rw [hd0]; rfl)⟩, ?_⟩
      first
      | exact ⟨_, [(_, _)], List.forall_mem_cons.mpr ⟨by k_mem, List.forall_mem_cons.mpr ⟨by k_mem, List.forall_mem_cons.mpr ⟨by k_mem, fun _ h => nomatch h⟩⟩⟩, .inr ⟨_, _, _, _, rfl, rfl, hocd, hocv⟩, by simp, fun _ => ⟨rfl, rfl⟩⟩
      | exact ⟨_, [(_, _)], List.forall_mem_cons.mpr ⟨by k_mem, List.forall_mem_cons.mpr ⟨by k_mem, List.forall_mem_cons.mpr ⟨by k_mem, fun _ h => nomatch h⟩⟩⟩, .inr ⟨_, _, _, _, rfl, rfl, by assumption, by assumption⟩, by simp, fun h => absurd rfl h⟩
    rename News _ _ _ _ => N9
    rename Fr _ _ _ _ => F9
    refine d2i_use N9 (d2i_rec (n := n) (need := _) ?_) B' F9 X' T' rfl rfl (by show dp + 1 ≤ 550; omega) (by show un + 3 ≤ 3000; omega) (by omega) hlen ?_
    rotate_left
    · intro t2 h2 tk2 F2 N2 K2
      refine ⟨_, _, _, _, rfl, by assumption, by assumption, ⟨_, rfl⟩, ?_⟩
      first
      | exact ⟨_, [(_, _)], List.forall_mem_cons.mpr ⟨by k_mem, List.forall_mem_cons.mpr ⟨by k_mem, List.forall_mem_cons.mpr ⟨by k_mem, fun _ h => nomatch h⟩⟩⟩, .inr ⟨_, _, _, _, rfl, rfl, hocd, hocv⟩, by simp, fun _ => ⟨rfl, rfl⟩⟩
      | exact ⟨_, [(_, _)], List.forall_mem_cons.mpr ⟨by k_mem, List.forall_mem_cons.mpr ⟨by k_mem, List.forall_mem_cons.mpr ⟨by k_mem, fun _ h => nomatch h⟩⟩⟩, .inr ⟨_, _, _, _, rfl, rfl, by assumption, by assumption⟩, by simp, fun h => absurd rfl h⟩
    intro k IH
    clear F9 N9 B' X' T'
    intro dp un gd env outer A₀ base h₀ L m s news Q E l r tl tr B F X T hf hke N hs hdp hun h0 hlr hr hk hret
    refine call_nest_plain (fun v => ∃ t, v = .int (dval n ((ds.drop l.toNat).take (r - l).toNat)) t) B F X N hs T
      rfl hf hke (by show dp < recursionLimit; simp only [recursionLimit]; omega) (by k_mem) (by k_mem) (by assumption) (by assumption) rfl rfl rfl rfl rfl (by decide) ?_ ?_
    · rintro v h' tk' ⟨t, rfl⟩ F' N' K'
      exact hret t h' tk' F' N' K'
    intro g L' h₁ tk hkp hlt F' N' B' X' T'
    k_fold
    have hb1 := dval_bits (sub_digits hds ((l + r) / 2).toNat (r - (l + r) / 2).toNat) hn (by rw [List.length_take, List.length_drop]; exact Nat.le_trans (Nat.min_le_right _ _) (Nat.le_trans (Nat.sub_le _ _) hlen))
    k_steps
    · refine ⟨_, _, _, _, rfl, by assumption, by assumption, ⟨_, int_eq ?_⟩, ?_⟩
      · rw [dval_one h0 (by assumption) hr]
      · exact fun _ h => h
    rename News _ _ _ _ => N8
    rename Fr _ _ _ _ => F8
    generalize hmid : (l + r).fdiv (2 ^ Int.toNat 1) = mid at *
    have hmid' : (l + r) / 2 = mid := by
      rw [← hmid, Int.fdiv_eq_ediv_of_nonneg _ (by decide)]; rfl
    rw [hmid'] at hb1
    have hs0 : 0 ≤ (mid - l) * (n : Int) := Int.mul_nonneg (by omega) (by omega)
    have hs1 : (mid - l) * (n : Int) ≤ 10000 := by
      have := Int.mul_le_mul (a := mid - l) (c := 100) (b := (n : Int)) (d := 100) (by omega) (by omega) (by omega) (by omega)
      omega
    refine IH B' F8 X' T' rfl rfl N8 (fun _ h => h) (by show dp + 1 + k ≤ 700; omega) (by show un + 3 + 10 * k ≤ 5000; omega) (by omega) (by omega) (by omega) (by omega) ?_
    intro t1 h1 tk1 F8' N8' K1
    clear F8 N8
    k_steps
    refine IH B' F8' X' T' rfl rfl N8' (fun _ h => h) (by show dp + 1 + k ≤ 700; omega) (by show un + 3 + 10 * k ≤ 5000; omega) (by omega) (by omega) (by omega) (by omega) ?_
    intro t2 h2 tk2 F8'' N8'' K2
    clear F8' N8'
    k_steps
    refine ⟨_, _, _, _, rfl, by assumption, by assumption, ⟨_, int_eq ?_⟩, ?_⟩
    · rw [dval_split h0 (by omega) (by omega) hr]
    · exact fun _ h => h)
end Mine
end SC2
section SC3
open PySem PySem.W PyProof.Rows PySem.Calls PySem.Spec
namespace Mine
theorem fill3 : (hd.heap_1 = hd.heap_1 ∧ PySem.Challenge.rw_rs0186_01 = PySem.Challenge.rw_rs0186_01) := by
  k_fill
  w_top off
  exact ⟨rfl, rfl⟩
noncomputable abbrev qI2D : Str := Str.ofString "_int2digits" ++ Str.ofString ".<locals>." ++ Str.ofString "inner"

theorem ints_rep (n : Int) (t : Tok) : ∀ k, IntsAre (List.replicate k (.int n t)) (List.replicate k n)
  | 0 => .nil
  | k + 1 => .cons n t (ints_rep n t k)

theorem mul_one {prog : Program} {w : World} {A : Around} {E : Value → Shared → Prop} {s : Shared} {h₀ : Heap} {L : Addr} {m : Str → Option Value} {news : List (Addr × Obj)} {l : Addr} {v : Value} {k : Nat} {x : Int} {u : Tok} {Q : Value → Shared → Prop}
    (F : Fr h₀ L s.heap m) (N : News h₀ L s.heap news) (hm : (l, W.listOf #[v] k) ∈ news) (h0 : -1000 ≤ x) (h1 : x ≤ 1000)
    (h : ∀ a h', Fr h₀ L h' m → News h₀ L h' ((a, lstObj (List.replicate x.toNat v) 0) :: news) → (∀ q ∈ news, q.1 < a) → Q (.ref a) { s with heap := h' }) :
    wpAny (model prog w) A (binaryOp .Mult (.ref l) (.int x u)) Q E s := by
  refine mul_list F N (N _ hm).1 (by omega) (by omega) (by simp; omega) fun h' F' N' => h _ h' F' ?_ fun q hq => Heap.lt_size (N q hq).1
  have e : (List.foldl (fun x1 x2 => x1 ++ x2) #[] (List.replicate (if (#[v] : Array Value).isEmpty = true then 0 else x.toNat) #[v])) = (List.replicate x.toNat v).toArray := by
    rw [show (if (#[v] : Array Value).isEmpty = true then 0 else x.toNat) = x.toNat from rfl]
    generalize x.toNat = n
    have key : ∀ (n : Nat) (acc : Array Value), List.foldl (fun x1 x2 => x1 ++ x2) acc (List.replicate n #[v]) = acc ++ (List.replicate n v).toArray := by
      intro n
      induction n with
      | zero => intro acc; simp
      | succ n ih => intro acc; rw [List.replicate_succ, List.foldl_cons, ih, List.replicate_succ]; apply Array.toList_inj.mp; simp
    rw [key]; simp
  rw [e] at N'
  exact N'

theorem call_nest_list {prog : Program} {w : World} {p : Program} {loose : List Str} {mean : ExcName → Option Value} {mg mb : Str → Option Value} {K : Frag}
    {A A₀ : Around} {base h₀ : Heap} {L : Addr} {m : Str → Option Value} {fix : List (Addr × Obj)} {d : Addr} {ls : List Value} {nd : Nat} {s : Shared} {env : Env} {outer : List Env}
    {Q E : Value → Shared → Prop} (R : List Value → Prop)
    {name qual : Str} {params : Arguments} {body : List Stmt} {scope : Scope} {cl : List (Str × Addr)} {doc pm ctv : Value} {c' : Addr} {f : Addr} {oc : Obj} {vs : Array Value} {t : Tok} {args : List Value} {binds : List (Str × Value)}
    (B : Below A₀ base outer h₀) (F : Fr h₀ L s.heap m) (X : K.In h₀) (N : News h₀ L s.heap ((d, lstObj ls nd) :: fix)) (T : Top p loose mean mg mb h₀) (hA : A.frames = some (env :: outer)) (hf : env.frame = some L) (hke : env.scope.kind = .function)
    (hroom : A.depth < recursionLimit)
    (ho : (f, fnMade name qual params body scope cl doc pm c' ctv) ∈ fix) (hm : (c', oc) ∈ fix) (hd : oc.data = .fields vs) (hv : vs[1]? = some (.str qual t))
    (hbind : bindArgs (fnX name qual params body scope cl .none .none doc pm none (.ref c') ctv) ⟨args, []⟩ = pure binds) (hloc : (binds.all fun x => decide (scope.names.lookup x.1 = some .local)) = true)
    (hco : scope.isCoroutine = false) (hgen : scope.isGenerator = false) (hk : scope.kind = .function) (hcell : ∀ x ∈ scope.names, x.2 ≠ .cell)
    (hret : ∀ h' tk ls' nd', R ls' → Fr h₀ L h' m → News h₀ L h' ((d, lstObj ls' nd') :: fix) → Kept [(d, lstObj ls nd)] s.heap h' → Q .none { s with heap := h', toks := tk })
    (h : ∀ g L' h₁ tk, Kept ((d, lstObj ls nd) :: fix) s.heap g → (∀ q ∈ ((d, lstObj ls nd) :: fix), q.1 < L') → Fr g L' h₁ (fun y => binds.reverse.lookup y) → News g L' h₁ ((d, lstObj ls nd) :: fix) → Below A base (env :: outer) g → K.In g → Top p loose mean mg mb g →
      wpAny (model prog w) (A.deeper (envX qual scope L' f (.ref c') cl)) (execs body (envX qual scope L' f (.ref c') cl)) (Done g L' s (fun v news' => v = .none ∧ ∃ ls' nd', R ls' ∧ ∀ q ∈ ((d, lstObj ls' nd') :: fix), q ∈ news')) noErr { s with heap := h₁, toks := tk }) :
    wpAny (model prog w) A (call (.ref f) args) Q E s := by
  refine call_nest_need B F X N T hA hf hke hroom (.tail _ ho) (.tail _ hm) hd hv hbind hloc hco hgen hk hcell ?_ h
  rintro v h' tk news' ⟨rfl, ls', nd', hR, hs⟩ F' N' K' _
  have N2 := News.sub N' hs
  refine hret h' tk ls' nd' hR F' N2 fun b o hb e => ?_
  by_cases hx : b ∈ fix.map (·.1)
  · obtain ⟨q, hq, rfl⟩ := List.mem_map.mp hx
    have := (N q (.tail _ hq)).1
    rw [e] at this; cases this
    exact (N2 q (.tail _ hq)).1
  · exact K' b o (by simp at hb hx ⊢; exact ⟨hb, hx⟩) e

section
variable (prog : Program) (w : World) (p : Program) (loose : List Str) (mean : ExcName → Option Value) (mg mb : Str → Option Value)
noncomputable def I2D (fix : List (Addr × Obj)) (f d : Addr) (n len : Nat) (k : Nat) : Prop :=
  ∀ {dp un : Nat} {gd : Option (List Code)} {env : Env} {outer : List Env} {A₀ : Around} {base h₀ : Heap} {L : Addr} {m : Str → Option Value} {s : Shared} {vs : List Value} {nd : Nat} {ds : List Int}
    {Q E : Value → Shared → Prop} {x l r : Int} {tx tl tr : Tok},
    Below A₀ base outer h₀ → Fr h₀ L s.heap m → (hd.heap_1 w.params).In h₀ → Top p loose mean mg mb h₀ → env.frame = some L → env.scope.kind = .function →
    News h₀ L s.heap ((d, lstObj vs nd) :: fix) → IntsAre vs ds → ds.length = len → len ≤ 100 →
    dp + k ≤ 700 → un + 10 * k ≤ 5000 → 0 ≤ l → l < r → r ≤ len → r - l ≤ k → 0 ≤ x → x < 2 ^ (n * (r - l).toNat) → x < 1000000000000000 →
    (∀ h' tk' vs' nd', Fr h₀ L h' m → News h₀ L h' ((d, lstObj vs' nd') :: fix) → IntsAre vs' (ds.take l.toNat ++ toDig n (r - l).toNat x ++ ds.drop r.toNat) → Kept [(d, lstObj vs nd)] s.heap h' → Q .none { s with heap := h', toks := tk' }) →
    wpAny (model prog w) (at_ dp un gd env outer) (call (.ref f) [.int x tx, .int l tl, .int r tr]) Q E s
end
theorem i2d_rec {prog : Program} {w : World} {p : Program} {loose : List Str} {mean : ExcName → Option Value} {mg mb : Str → Option Value} {fix : List (Addr × Obj)} {f d : Addr} {n len : Nat}
    (step : ∀ k, I2D prog w p loose mean mg mb fix f d n len k → I2D prog w p loose mean mg mb fix f d n len (k + 1)) : ∀ k, I2D prog w p loose mean mg mb fix f d n len k
  | 0 => fun _ _ _ _ _ _ _ _ _ _ _ _ _ _ h1 _ h2 _ => by omega
  | k + 1 => step k (i2d_rec step k)

theorem i2d_use {prog : Program} {w : World} {p : Program} {loose : List Str} {mean : ExcName → Option Value} {mg mb : Str → Option Value} {fix : List (Addr × Obj)} {f d : Addr} {n : Nat} {ds : List Int} {vs : List Value} {nd : Nat}
    {dp un : Nat} {gd : Option (List Code)} {env : Env} {outer : List Env} {A₀ : Around} {base h₀ : Heap} {L : Addr} {m : Str → Option Value} {s : Shared}
    {Q E : Value → Shared → Prop} {a : Int} {ta tl tr : Tok}
    (N : News h₀ L s.heap ((d, lstObj vs nd) :: fix)) (H : ∀ k, I2D prog w p loose mean mg mb fix f d n ds.length k)
    (B : Below A₀ base outer h₀) (F : Fr h₀ L s.heap m) (X : (hd.heap_1 w.params).In h₀) (T : Top p loose mean mg mb h₀) (hf : env.frame = some L) (hke : env.scope.kind = .function)
    (hI : IntsAre vs ds)
    (hdp : dp ≤ 550) (hun : un ≤ 3000) (hds : 0 < ds.length) (hds' : ds.length ≤ 100) (ha : 0 ≤ a) (ha1 : a < 2 ^ (n * ds.length)) (ha2 : a < 1000000000000000)
    (hret : ∀ h' tk' vs' nd', Fr h₀ L h' m → News h₀ L h' ((d, lstObj vs' nd') :: fix) → IntsAre vs' (toDig n ds.length a) → Kept [(d, lstObj vs nd)] s.heap h' → Q .none { s with heap := h', toks := tk' }) :
    wpAny (model prog w) (at_ dp un gd env outer) (call (.ref f) [.int a ta, .int 0 tl, .int ds.length tr]) Q E s := by
  refine H ds.length B F X T hf hke N hI rfl hds' (by omega) (by lia) (by lia) (by omega) (by omega) (by omega) ha (by simpa using ha1) ha2 ?_
  simpa using hret

theorem put_dig {n : Nat} {ds : List Int} {x l r : Int} (h0 : 0 ≤ l) (h1 : l + 1 = r) (h2 : r ≤ ds.length) (hx0 : 0 ≤ x) (hx : x < 2 ^ (n * (r - l).toNat)) :
    ds.set l.toNat x = ds.take l.toNat ++ toDig n (r - l).toNat x ++ ds.drop r.toNat := by
  have a : (r - l).toNat = 1 := by omega
  have b : l.toNat < ds.length := by omega
  have c : r.toNat = l.toNat + 1 := by omega
  rw [a, Nat.mul_one] at hx
  rw [a, c, toDig, toDig, Int.emod_eq_of_lt hx0 hx, List.set_eq_take_append_cons_drop, if_pos b]
  simp

theorem tn_add {l m r : Int} (h1 : l ≤ m) (h2 : m ≤ r) : (r - l).toNat = (m - l).toNat + (r - m).toNat := by
  rw [← Int.toNat_add (Int.sub_nonneg_of_le h1) (Int.sub_nonneg_of_le h2)]
  congr 1
  omega
theorem min_add {N : Nat} {l m : Int} (h0 : 0 ≤ l) (h1 : l ≤ m) (h2 : m ≤ N) : min l.toNat N + (m - l).toNat = m.toNat := by
  rw [Nat.min_eq_left (Int.toNat_le.mpr (Int.le_trans h1 h2)), ← Int.toNat_add h0 (Int.sub_nonneg_of_le h1)]
  congr 1
  omega
theorem min_len {N : Nat} {l m : Int} (h0 : 0 ≤ l) (h1 : l ≤ m) (h2 : m ≤ N) : min l.toNat N + (m - l).toNat + (N - m.toNat) = N := by
  rw [min_add h0 h1 h2]
  exact Nat.add_sub_cancel' (Int.toNat_le.mpr h2)
theorem put_two {n : Nat} {ds : List Int} {x l mid r : Int} (h0 : 0 ≤ l) (h1 : l ≤ mid) (h2 : mid ≤ r) (h3 : r ≤ ds.length) {u v : List Int} (hu : u = toDig n (mid - l).toNat (x % 2 ^ (n * (mid - l).toNat))) (hv : v = toDig n (r - mid).toNat (x / 2 ^ (n * (mid - l).toNat))) :
    (ds.take l.toNat ++ u ++ ds.drop mid.toNat).take mid.toNat ++ v ++ (ds.take l.toNat ++ u ++ ds.drop mid.toNat).drop r.toNat = ds.take l.toNat ++ toDig n (r - l).toNat x ++ ds.drop r.toNat := by
  have hul : u.length = (mid - l).toNat := by rw [hu, toDig_length]
  have hl : (ds.take l.toNat ++ u).length = mid.toNat := by rw [List.length_append, List.length_take, hul]; exact min_add h0 h1 (Int.le_trans h2 h3)
  have e1 : (ds.take l.toNat ++ u ++ ds.drop mid.toNat).take mid.toNat = ds.take l.toNat ++ u := by rw [← hl, List.take_left]
  have e2 : (ds.take l.toNat ++ u ++ ds.drop mid.toNat).drop r.toNat = ds.drop r.toNat := by
    rw [List.drop_append, hl, List.drop_drop, List.drop_eq_nil_of_le (by rw [hl]; exact Int.toNat_le_toNat h2), List.nil_append]
    congr 1; exact Nat.add_sub_cancel' (Int.toNat_le_toNat h2)
  have e3 : (r - l).toNat = (mid - l).toNat + (r - mid).toNat := tn_add h1 h2
  rw [e1, e2, e3, toDig_add, hu, hv]
  simp

theorem pull1 {h₀ h : Heap} {L : Addr} {a x : Addr × Obj} {ys : List (Addr × Obj)} (N : News h₀ L h (a :: x :: ys)) : News h₀ L h (x :: a :: ys) :=
  News.sub N fun q hq => by
    simp only [List.mem_cons] at hq ⊢
    rcases hq with h | h | h
    · exact .inr (.inl h)
    · exact .inl h
    · exact .inr (.inr h)
theorem pull2 {h₀ h : Heap} {L : Addr} {a b x : Addr × Obj} {ys : List (Addr × Obj)} (N : News h₀ L h (a :: b :: x :: ys)) : News h₀ L h (x :: a :: b :: ys) :=
  News.sub N fun q hq => by
    simp only [List.mem_cons] at hq ⊢
    rcases hq with h | h | h | h
    · exact .inr (.inr (.inl h))
    · exact .inl h
    · exact .inr (.inl h)
    · exact .inr (.inr (.inr h))
theorem emod_le {x m : Int} (hx : 0 ≤ x) (hm : 0 < m) : x % m ≤ x := by
  have a := Int.mul_ediv_add_emod x m
  have b := Int.mul_nonneg (Int.le_of_lt hm) (Int.ediv_nonneg hx (Int.le_of_lt hm))
  omega
theorem toDig_zero (n : Nat) : ∀ k, toDig n k 0 = List.replicate k 0
  | 0 => rfl
  | k + 1 => by rw [toDig, Int.zero_emod, Int.zero_ediv, toDig_zero n k, List.replicate_succ]
theorem lt_bits {a : Int} {k : Nat} (h0 : 0 ≤ a) (h : Builtin.Int.intBits a ≤ k) : a < 2 ^ k := by
  have := intBits_le_iff.mp h
  rw [two_pow_nat]
  omega
theorem bits_pos {a : Int} (h : a ≠ 0) : 1 ≤ Builtin.Int.intBits a := by
  unfold Builtin.Int.intBits
  rw [if_neg (by simpa using h)]
  lia

set_option maxRecDepth 100000 in
set_option maxHeartbeats 8000000 in
theorem int2digits_con {prog : Program} {w : World} {p : Program} {loose : List Str} {mean : ExcName → Option Value} {mg mb : Str → Option Value}
    {dp un : Nat} {gd : Option (List Code)} {env : Env} {outer : List Env} {A₀ : Around} {base h₀ : Heap} {L : Addr} {m : Str → Option Value} {s : Shared}
    {Q E : Value → Shared → Prop} {a : Int} {ta : Tok} {n : Nat} {tn : Tok} {ps : Array Value} {ex : List (Addr × Obj)}
    (B : Below A₀ base outer h₀) (F : Fr h₀ L s.heap m) (X : (hd.heap_1 w.params).In h₀) (T : Top p loose mean mg mb h₀) (hf : env.frame = some L) (hke : env.scope.kind = .function)
    (hdp : dp ≤ 500) (hun : un ≤ 1000) (N : News h₀ L s.heap ((30, tabObj ps) :: ex)) (hT : TabIs 32 4 qI2D ps ex) (C30 : CodeHd h₀ 34 30) (hn : n ≤ 30) (hn0 : 0 < n) (ha : 0 ≤ a) (ha' : a < 1000000000000000)
    (hret : ∀ q vs' nd' cnt h' tk' ps' ex', Fr h₀ L h' m → News h₀ L h' ((q, lstObj vs' nd') :: (30, tabObj ps') :: ex') → IntsAre vs' (toDig n cnt a) → cnt ≤ 80 → a < 2 ^ (n * cnt) → TabIs 32 4 qI2D ps' ex' → ps' ≠ #[] →
      Kept [(30, tabObj #[])] s.heap h' → s.heap.get? q = none → (ps ≠ #[] → Kept [] s.heap h' ∧ ps' = ps ∧ ex' = ex) → Q (.ref q) { s with heap := h', toks := tk' }) :
    wpAny (model prog w) (at_ dp un gd env outer) (call (.ref 35) [.int a ta, .int n tn]) Q E s := by
  have hbits := bits50 ha ha'
  refine' call_cells_need (need := _) (P := fun v news' => ∃ q vs' nd' cnt ps' ex', v = .ref q ∧ (∀ e ∈ ((q, lstObj vs' nd') :: (30, tabObj ps') :: ex'), e ∈ news') ∧ IntsAre vs' (toDig n cnt a) ∧ cnt ≤ 80 ∧ a < 2 ^ (n * cnt) ∧ TabIs 32 4 qI2D ps' ex' ∧ ps' ≠ #[] ∧ (ps ≠ #[] → ps' = ps ∧ ex' = ex)) B F X N T
    (by exact rfl) hf hke (by show dp < recursionLimit; simp only [recursionLimit]; omega) (by k_is) (by k_is) (by exact rfl) (by exact rfl) (by decide) (by exact rfl) (by exact rfl) (by exact rfl) ?hret ?h
  case hret =>
    rintro v h' tk' news' ⟨q, vs', nd', cnt, ps', ex', rfl, hs, hI, hc, hc2, hT', hne, heq⟩ F' N' K' hfr
    have N2 := News.sub N' hs
    have kk : ps ≠ #[] → Kept [] s.heap h' := fun h => by
      obtain ⟨rfl, rfl⟩ := heq h
      exact kept_all N N' (fun e he => hs e (.tail _ he)) K'
    have hq : s.heap.get? q = none := by
      refine (hfr _ (hs _ (.head _))).resolve_left fun hq => ?_
      obtain ⟨e, he, rfl⟩ := List.mem_map.mp hq
      have g1 := (N2 _ (.head _)).1
      rcases List.mem_cons.mp he with rfl | he2
      · have g2 := (N2 _ (.tail _ (.head _))).1
        simp only at g1 g2
        rw [g1] at g2; cases g2
      · rcases hT with ⟨_, rfl⟩ | ⟨c, oc, vc, t, rfl, rfl, hocd, _⟩
        · cases he2
        · have g2 := kk (by simp) _ _ (fun h => nomatch h) (N e (.tail _ he2)).1
          simp only at g1
          rw [g1] at g2
          rcases List.mem_singleton.mp he2
          cases g2; cases hocd
    refine hret q vs' nd' cnt h' tk' ps' ex' F' N2 hI hc hc2 hT' hne (fun b o hb e => ?_) hq fun h => ⟨kk h, heq h⟩
    by_cases hp : ps = #[]
    · obtain ⟨_, rfl⟩ : ps = #[] ∧ ex = [] := hT.resolve_right fun ⟨c, oc, vs, t, e, _⟩ => by rw [hp] at e; cases e
      exact K' b o (by simpa using hb) e
    · exact kk hp b o (fun h => nomatch h) e
  intro g L' h₁ tk cells hkp hlt F' N' Y B' X' T'
  replace C30 : CodeHd g 34 30 := C30.keeps fun b o e => hkp b o (fun hb => by
    obtain ⟨q, hq, rfl⟩ := List.mem_map.mp hb
    have := (N q hq).2.2; rw [e] at this; cases this) (F.keep b o e)
  clear F N X T B
  rcases hT with ⟨rfl, rfl⟩ | ⟨c, oc, vs, t, rfl, rfl, hocd, hocv⟩
  all_goals (
    k_lt hlt
    k_cells Y
    simp only [List.cons_append, List.nil_append] at N'
    try dsimp only
    show wpAny _ _ _ _ _ _
    k_fold
    k_steps
    have hc0 : 0 ≤ (((Builtin.Int.intBits a : Nat) : Int) + n - 1).fdiv n := Int.fdiv_nonneg (by omega) (by omega)
    have hc1 : (((Builtin.Int.intBits a : Nat) : Int) + n - 1).fdiv n ≤ 80 := by
      rw [Int.fdiv_eq_ediv_of_nonneg _ (by omega)]
      exact Int.le_trans (Int.ediv_le_self _ (by omega)) (by omega)
    rename News _ _ _ _ => N1
    rename Fr _ _ _ _ => F1
    have hcov : ((Builtin.Int.intBits a : Nat) : Int) ≤ n * (((Builtin.Int.intBits a : Nat) : Int) + n - 1).fdiv n := by
      rw [Int.fdiv_eq_ediv_of_nonneg _ (by omega)]
      have e1 := Int.mul_ediv_add_emod (((Builtin.Int.intBits a : Nat) : Int) + n - 1) n
      have e2 := Int.emod_lt_of_pos (((Builtin.Int.intBits a : Nat) : Int) + n - 1) (b := (n : Int)) (by omega)
      omega
    generalize hcn : (((Builtin.Int.intBits a : Nat) : Int) + n - 1).fdiv n = cnt at *
    refine mul_one F1 N1 (by k_mem) (by omega) (by omega) ?_
    intro d hd' F2 N2 l2
    clear F1 N1
    k_lt l2
    have hI := ints_rep 0 tk cnt.toNat
    generalize hvs : List.replicate cnt.toNat (Value.int 0 tk) = vs at *
    have hvl : vs.length ≤ 80 := by rw [← hvs, List.length_replicate]; omega
    have hvl2 : (List.replicate cnt.toNat (0 : Int)).length = cnt.toNat := List.length_replicate
    generalize hds : List.replicate cnt.toNat (0 : Int) = ds at *
    k_steps
    · have hpos := bits_pos (a := a) (by assumption)
      have hc2 : 0 < cnt := by
        by_cases h : cnt = 0
        · rw [h] at hcov; omega
        · omega
      have hal : a < 2 ^ (n * ds.length) := by
        refine lt_bits ha ?_
        rw [hvl2]
        have : ((n * cnt.toNat : Nat) : Int) = n * cnt := by rw [Int.natCast_mul, Int.toNat_of_nonneg hc0]
        omega
      rename News _ _ _ _ => N9
      rename Fr _ _ _ _ => F9
      refine i2d_use (n := n) (by first | exact pull2 N9 | exact pull1 N9) (i2d_rec ?_) B' F9 X' T' rfl rfl hI (by show dp + 1 ≤ 550; omega) (by show un + 3 ≤ 3000; omega) (by omega) (by omega) ha hal (by omega) ?_
      rotate_left
      · intro h9 tk9 vs9 nd9 F9' N9' I9 K9
        clear F9 N9
        k_steps
        refine ⟨_, _, _, _, rfl, by assumption, by assumption, ?_⟩
        first
          | exact ⟨_, _, _, _, _, [(_, _)], rfl, List.forall_mem_cons.mpr ⟨by k_mem, List.forall_mem_cons.mpr ⟨by k_mem, List.forall_mem_cons.mpr ⟨by k_mem, fun _ h => nomatch h⟩⟩⟩, I9, by omega, hal, .inr ⟨_, _, _, _, rfl, rfl, hocd, hocv⟩, by simp, fun _ => ⟨rfl, rfl⟩⟩
          | exact ⟨_, _, _, _, _, [(_, _)], rfl, List.forall_mem_cons.mpr ⟨by k_mem, List.forall_mem_cons.mpr ⟨by k_mem, List.forall_mem_cons.mpr ⟨by k_mem, fun _ h => nomatch h⟩⟩⟩, I9, by omega, hal, .inr ⟨_, _, _, _, rfl, rfl, by assumption, by assumption⟩, by simp, fun h => absurd rfl h⟩
      intro k IH
      clear F9 N9 B' X' T'
      intro dp un gd env outer A₀ base h₀ L m s vs nd ds Q E x l r tx tl tr B F X T hf hke N hI hdl hlen hdp hun h0 hlr hr hk hx0 hx1 hx2 hret
      refine call_nest_list (fun vs' => IntsAre vs' (ds.take l.toNat ++ toDig n (r - l).toNat x ++ ds.drop r.toNat)) B F X N T
        rfl hf hke (by show dp < recursionLimit; simp only [recursionLimit]; omega) (by k_mem) (by k_mem) (by assumption) (by assumption) rfl rfl rfl rfl rfl (by decide) ?_ ?_
      · intro h' tk' vs' nd' hR F' N' K'
        exact hret h' tk' vs' nd' F' N' hR K'
      intro g L' h₁ tk hkp hlt F' N' B' X' T'
      have hvl : vs.length ≤ 100 := by rw [hI.length]; omega
      have hmid : (l + r).fdiv (2 ^ Int.toNat 1) = (l + r) / 2 := by rw [Int.fdiv_eq_ediv_of_nonneg _ (by decide)]; rfl
      have hs0 : 0 ≤ ((l + r).fdiv (2 ^ Int.toNat 1) - l) * (n : Int) := Int.mul_nonneg (by omega) (by omega)
      have hs1 : ((l + r).fdiv (2 ^ Int.toNat 1) - l) * (n : Int) ≤ 3000 := by
        have := Int.mul_le_mul (a := (l + r).fdiv (2 ^ Int.toNat 1) - l) (c := 100) (b := (n : Int)) (d := 30) (by omega) (by omega) (by omega) (by omega)
        omega
      have hke2 : (((l + r).fdiv (2 ^ Int.toNat 1) - l) * (n : Int)).toNat = n * ((l + r) / 2 - l).toNat := by
        rw [hmid]
        obtain ⟨k, hk⟩ : ∃ k : Nat, (l + r) / 2 - l = k := ⟨((l + r) / 2 - l).toNat, by omega⟩
        rw [hk, ← Int.natCast_mul, Int.toNat_natCast, Nat.mul_comm, Int.toNat_natCast]
      have hup : x.fdiv (2 ^ (((l + r).fdiv (2 ^ Int.toNat 1) - l) * (n : Int)).toNat) = x / 2 ^ (n * ((l + r) / 2 - l).toNat) := by
        rw [hke2, Int.fdiv_eq_ediv_of_nonneg _ (Int.le_of_lt (two_pos _))]
      have hup0 : 0 ≤ x.fdiv (2 ^ (((l + r).fdiv (2 ^ Int.toNat 1) - l) * (n : Int)).toNat) := by rw [hup]; exact Int.ediv_nonneg hx0 (Int.le_of_lt (two_pos _))
      have hup1 : x.fdiv (2 ^ (((l + r).fdiv (2 ^ Int.toNat 1) - l) * (n : Int)).toNat) ≤ x := by rw [hup]; exact Int.ediv_le_self _ hx0
      show wpAny _ _ _ _ _ _
      k_fold
      k_steps
      · refine ⟨_, _, _, _, rfl, by assumption, by assumption, rfl, _, _, ?_, fun _ h => h⟩
        rw [← put_dig h0 (by assumption) (by omega) hx0 hx1]
        assumption
      have hlow : Builtin.bitXor x (x.fdiv (2 ^ (((l + r).fdiv (2 ^ Int.toNat 1) - l) * (n : Int)).toNat) * 2 ^ (((l + r).fdiv (2 ^ Int.toNat 1) - l) * (n : Int)).toNat) = x % 2 ^ (n * ((l + r) / 2 - l).toNat) := by
        rw [hup, hke2, xor_low hx0]
      rw [hlow, hmid]
      rename News _ _ _ _ => N8
      rename Fr _ _ _ _ => F8
      have hpw : (2 : Int) ^ (n * (r - l).toNat) = 2 ^ (n * ((l + r) / 2 - l).toNat) * 2 ^ (n * (r - (l + r) / 2).toNat) := by
        rw [← Int.pow_add, ← Nat.mul_add]
        congr 2; exact tn_add (by omega) (by omega)
      rw [hpw] at hx1
      refine IH B' F8 X' T' rfl rfl N8 hI hdl hlen (by show dp + 1 + k ≤ 700; omega) (by show un + 3 + 10 * k ≤ 5000; omega) (by omega) (by omega) (by omega) (by omega)
        (Int.emod_nonneg _ (Int.ne_of_gt (two_pos _))) (Int.emod_lt_of_pos _ (two_pos _)) (Int.lt_of_le_of_lt (emod_le hx0 (two_pos _)) hx2) ?_
      intro h1 tk1 vs1 nd1 F8' N8' I1 K1
      clear F8 N8
      k_steps
      rw [hup, hmid]
      refine IH B' F8' X' T' rfl rfl N8' I1 (by simp only [List.length_append, List.length_take, List.length_drop, toDig_length]; exact (min_len h0 (by omega) (by omega)).trans hdl) hlen (by show dp + 1 + k ≤ 700; omega) (by show un + 3 + 10 * k ≤ 5000; omega) (by omega) (by omega) (by omega) (by omega)
        (by rw [← hup]; exact hup0) (Int.ediv_lt_of_lt_mul (two_pos _) (by rw [Int.mul_comm]; exact hx1)) (by rw [← hup]; omega) ?_
      intro h2 tk2 vs2 nd2 F8'' N8'' I2 K2
      rw [put_two h0 (by omega) (by omega) (by omega) rfl rfl] at I2
      clear F8' N8'
      k_steps
      exact ⟨_, _, _, _, rfl, by assumption, by assumption, rfl, _, _, I2, fun _ h => h⟩
    · refine ⟨_, _, _, _, rfl, by assumption, by assumption, ?_⟩
      have hI9 : IntsAre vs (toDig n cnt.toNat a) := by
        rw [show a = 0 by assumption, toDig_zero, hds]; exact hI
      have hal : a < 2 ^ (n * cnt.toNat) := by
        rw [show a = 0 by assumption]; exact two_pos _
      first
          | exact ⟨_, _, _, _, _, [(_, _)], rfl, List.forall_mem_cons.mpr ⟨by k_mem, List.forall_mem_cons.mpr ⟨by k_mem, List.forall_mem_cons.mpr ⟨by k_mem, fun _ h => nomatch h⟩⟩⟩, hI9, by omega, hal, .inr ⟨_, _, _, _, rfl, rfl, hocd, hocv⟩, by simp, fun _ => ⟨rfl, rfl⟩⟩
          | exact ⟨_, _, _, _, _, [(_, _)], rfl, List.forall_mem_cons.mpr ⟨by k_mem, List.forall_mem_cons.mpr ⟨by k_mem, List.forall_mem_cons.mpr ⟨by k_mem, fun _ h => nomatch h⟩⟩⟩, hI9, by omega, hal, .inr ⟨_, _, _, _, rfl, rfl, by assumption, by assumption⟩, by simp, fun h => absurd rfl h⟩)
end Mine
end SC3
section SF
set_option hygiene false in
local macro_rules | `(tactic| walk_at "execs cons") => `(tactic| (k_here; (fail_if_success (with_reducible refine' isClean ?_)); (first | (refine' cleanT (G := s.gens) (D := s.drawn) (O := s.os) ?kcF ?kcH ?kcG ?kcD ?kcO ?_; (case kcF => k_asm); (case kcH => exact rfl); (case kcG => exact rfl); (case kcD => exact rfl); (case kcO => exact rfl)) | (refine' cleanT (G := s₁.gens) (D := s₁.drawn) (O := s₁.os) ?kcF ?kcH ?kcG ?kcD ?kcO ?_; (case kcF => k_asm); (case kcH => exact rfl); (case kcG => exact rfl); (case kcD => exact rfl); (case kcO => exact rfl)) | (refine' cleanT (G := gs) (D := s₁.drawn) (O := s₁.os) ?kcF ?kcH ?kcG ?kcD ?kcO ?_; (case kcF => k_asm); (case kcH => exact rfl); (case kcG => exact rfl); (case kcD => exact rfl); (case kcO => exact rfl))); intro tk; (try k_fold)))
local macro_rules
  | `(tactic| walk_at "eval Call") => `(tactic| (k_here; k_fold))
  | `(tactic| walk_at "eval Call Attribute") => `(tactic| (k_here; k_fold))
  | `(tactic| walk_at "eval BinOp") => `(tactic| (k_here; k_fold))
  | `(tactic| walk_at "eval Compare") => `(tactic| (k_here; k_fold))
  | `(tactic| walk_at "eval Subscript") => `(tactic| (k_here; k_fold))
  | `(tactic| walk_at "eval Tuple") => `(tactic| (k_here; k_fold))
  | `(tactic| walk_at "eval List") => `(tactic| (k_here; k_fold))
  | `(tactic| walk_at "eval IfExp") => `(tactic| (k_here; k_fold))
  | `(tactic| walk_at "eval UnaryOp") => `(tactic| (k_here; k_fold))
  | `(tactic| walk_at "isTrue Compare") => `(tactic| (k_here; k_fold))
  | `(tactic| walk_at "evalPart some") => `(tactic| (k_here; k_fold))
section SC4
open PySem PySem.W PyProof.Rows PySem.Calls PySem.Spec
namespace Mine
theorem fill4 : (hd.heap_1 = hd.heap_1 ∧ PySem.Challenge.rw_rs0186_01 = PySem.Challenge.rw_rs0186_01) := by
  k_fill
  w_top off
  exact ⟨rfl, rfl⟩

theorem kept_part {need need2 news' : List (Addr × Obj)} {h₀ h h' : Heap} {L : Addr} (N : News h₀ L h need) (N' : News h₀ L h' news') (K : Kept need h h') (hs : ∀ q ∈ need, q.1 ∈ need2.map (·.1) ∨ q ∈ news') : Kept need2 h h' := by
  intro b o hb e
  by_cases hm : b ∈ need.map (·.1)
  · obtain ⟨q, hq, rfl⟩ := List.mem_map.mp hm
    have := (N q hq).1
    rw [e] at this; cases this
    exact (N' q ((hs q hq).resolve_left hb)).1
  · exact K b o hm e
theorem not_old {need news' : List (Addr × Obj)} {h₀ h' : Heap} {L q : Addr} {o : Obj} (N' : News h₀ L h' news') (hq : (q, o) ∈ news') (ho : ∃ xs k, o.data = .seq xs k) (he : ∀ e ∈ need, ∃ o' fs, (e.1, o') ∈ news' ∧ o'.data = .fields fs) : q ∉ need.map (·.1) := by
  intro hm
  obtain ⟨e, hem, rfl⟩ := List.mem_map.mp hm
  obtain ⟨o', fs, h1, h2⟩ := he e hem
  have a := (N' _ hq).1
  have b := (N' _ h1).1
  simp only at a b
  rw [a] at b
  cases b
  obtain ⟨xs, k, ho⟩ := ho
  rw [h2] at ho; cases ho
theorem TabIs.fields {line col : Int} {qual : Str} {ps : Array Value} {ex : List (Addr × Obj)} (hT : TabIs line col qual ps ex) : ∀ e ∈ ex, ∃ fs, e.2.data = .fields fs := by
  rcases hT with ⟨_, rfl⟩ | ⟨c, oc, vs, t, _, rfl, hd, _⟩
  · exact fun _ h => nomatch h
  · intro e he
    rcases List.mem_singleton.mp he with rfl
    exact ⟨_, hd⟩
theorem TabIs.empty {line col : Int} {qual : Str} {ps : Array Value} {ex : List (Addr × Obj)} (hT : TabIs line col qual ps ex) (hp : ps = #[]) : ex = [] := by
  rcases hT with ⟨_, rfl⟩ | ⟨c, oc, vs, t, rfl, _⟩
  · rfl
  · cases hp
structure HidD (P : Prop) : Prop where
  out : P
theorem swap23 {h₀ h : Heap} {L : Addr} {a b c : Addr × Obj} {ys : List (Addr × Obj)} (N : News h₀ L h (a :: b :: c :: ys)) : News h₀ L h (a :: c :: b :: ys) :=
  News.sub N fun q hq => by
    simp only [List.mem_cons] at hq ⊢
    rcases hq with h | h | h | h
    · exact .inl h
    · exact .inr (.inr (.inl h))
    · exact .inr (.inl h)
    · exact .inr (.inr (.inr h))
local macro_rules | `(tactic| walk_at "exec For Name Call cons nil") => `(tactic| (k_here; (rename Fr _ _ _ _ => lF'); (with_unfolding_all refine' For_turns lF' ?_; k_whole)))
local macro_rules | `(tactic| walk_at "call builtin:list.append") => `(tactic| (k_here; (with_reducible show wpAny _ _ (call (Value.builtin _) [Value.ref _, _]) _ _ _); k_dflt (refine' append_K ?k1 ?k2 ?k3 ?_ ?z; (case k1 => k_asm); (case k2 => k_asm); (case k3 => k_upd); (case z => (simp only [List.size_toArray, sizeLine_eq]; omega)); k_whole); intro h' F' N'; (try k_sweep)))
set_option maxRecDepth 100000 in
set_option maxHeartbeats 8000000 in
theorem divmod_pos_con {prog : Program} {w : World} {p : Program} {loose : List Str} {mean : ExcName → Option Value} {mg mb : Str → Option Value}
    {dp un : Nat} {gd : Option (List Code)} {env : Env} {outer : List Env} {A₀ : Around} {base h₀ : Heap} {L : Addr} {m : Str → Option Value} {s : Shared}
    {Q E : Value → Shared → Prop} {a b : Int} {ta tb : Tok} {ps ps7 : Array Value} {ex ex7 : List (Addr × Obj)}
    (B : Below A₀ base outer h₀) (F : Fr h₀ L s.heap m) (X : (hd.heap_1 w.params).In h₀) (T : Top p loose mean mg mb h₀) (hf : env.frame = some L) (hke : env.scope.kind = .function)
    (hdp : dp ≤ 450) (hun : un ≤ 500) (N : News h₀ L s.heap ((37, tabObj ps7) :: (30, tabObj ps) :: (ex7 ++ ex))) (hT : TabIs 32 4 qI2D ps ex) (hT7 : TabIs 47 4 qD2I ps7 ex7) (hne7 : ps7 ≠ #[]) (C30 : CodeHd h₀ 34 30) (C37 : CodeHd h₀ 41 37)
    (hb : 0 < b) (hb' : b < 16777216) (ha : 0 ≤ a) (ha' : a < 1000000000000)
    (hret : ∀ q t1 t2 h' tk' ps' ex', Fr h₀ L h' m → News h₀ L h' ((q, tupObj [.int (a / b) t1, .int (a % b) t2]) :: (37, tabObj ps7) :: (30, tabObj ps') :: (ex7 ++ ex')) → TabIs 32 4 qI2D ps' ex' → ps' ≠ #[] →
      Kept [(30, tabObj #[])] s.heap h' → s.heap.get? q = none → (ps ≠ #[] → Kept [] s.heap h' ∧ ps' = ps ∧ ex' = ex) → Q (.ref q) { s with heap := h', toks := tk' }) :
    wpAny (model prog w) (at_ dp un gd env outer) (call (.ref 49) [.int a ta, .int b tb]) Q E s := by
  refine' call_need (need := _) (P := fun v news' => ∃ q t1 t2 ps' ex', v = .ref q ∧ (∀ e ∈ ((q, tupObj [.int (a / b) t1, .int (a % b) t2]) :: (37, tabObj ps7) :: (30, tabObj ps') :: (ex7 ++ ex')), e ∈ news') ∧ TabIs 32 4 qI2D ps' ex' ∧ ps' ≠ #[] ∧ (ps ≠ #[] → ps' = ps ∧ ex' = ex)) B F X N T
    (by exact rfl) hf hke (by show dp < recursionLimit; simp only [recursionLimit]; omega) (by k_is) (by k_is) (by exact rfl) (by exact rfl) (by exact rfl) (by exact rfl) (by exact rfl) (by decide) ?hret ?h
  case hret =>
    rintro v h' tk' news' ⟨q, t1, t2, ps', ex', rfl, hs, hT', hne', heq⟩ F' N' K' hfr
    have N2 := News.sub N' hs
    have hx7 : ∀ e ∈ ex7, ∃ fs, e.2.data = .fields fs := hT7.fields
    have hx' : ∀ e ∈ ex', ∃ fs, e.2.data = .fields fs := hT'.fields
    have m7 : ∀ e ∈ ex7, e ∈ news' := fun e he => hs e (.tail _ (.tail _ (.tail _ (List.mem_append_left _ he))))
    have m0 : ∀ e ∈ ex', e ∈ news' := fun e he => hs e (.tail _ (.tail _ (.tail _ (List.mem_append_right _ he))))
    have hemp : ps = #[] → ex = [] := fun h => hT.empty h
    have hq : s.heap.get? q = none := (hfr _ (hs _ (.head _))).resolve_left (not_old N' (hs _ (.head _)) ⟨_, _, rfl⟩ fun e he => by
      rcases List.mem_cons.mp he with h1 | h1
      · subst h1
        exact ⟨_, _, hs _ (.tail _ (.head _)), rfl⟩
      rcases List.mem_cons.mp h1 with h2 | h2
      · subst h2
        exact ⟨_, _, hs _ (.tail _ (.tail _ (.head _))), rfl⟩
      rcases List.mem_append.mp h2 with h3 | h3
      · exact ⟨_, _, m7 e h3, (hx7 e h3).choose_spec⟩
      · by_cases hp : ps = #[]
        · rw [hemp hp] at h3; cases h3
        · exact ⟨_, _, m0 e ((heq hp).2 ▸ h3), (hx' e ((heq hp).2 ▸ h3)).choose_spec⟩)
    refine hret q t1 t2 h' tk' ps' ex' F' N2 hT' hne' (kept_part N N' K' fun e he => ?_) hq fun hp => ⟨kept_part N N' K' fun e he => ?_, heq hp⟩
    · rcases List.mem_cons.mp he with h1 | h1
      · subst h1
        exact .inr (hs _ (.tail _ (.head _)))
      rcases List.mem_cons.mp h1 with h2 | h2
      · subst h2
        exact .inl (.head _)
      rcases List.mem_append.mp h2 with h3 | h3
      · exact .inr (m7 e h3)
      · by_cases hp : ps = #[]
        · rw [hemp hp] at h3; cases h3
        · exact .inr (m0 e ((heq hp).2 ▸ h3))
    · have h9 := heq hp
      exact .inr (hs e (.tail _ (by rw [h9.1, h9.2]; exact he)))
  intro g L' h₁ tk hkp hlt F' N' B' X' T'
  have stay : h₀.StaysIn g := fun b o e => hkp b o (fun hb => by
    obtain ⟨q, hq, rfl⟩ := List.mem_map.mp hb
    have := (N q hq).2.2; rw [e] at this; cases this) (F.keep b o e)
  replace C30 : CodeHd g 34 30 := C30.keeps stay
  replace C37 : CodeHd g 41 37 := C37.keeps stay
  clear F N X T B
  obtain ⟨c7, oc7, vs7, t7, rfl, rfl, hocd7, hocv7⟩ := hT7.resolve_left fun h => hne7 h.1
  simp only [List.cons_append, List.nil_append] at N'
  show wpAny _ _ _ _ _ _
  k_fold
  k_steps
  have hb0 : 0 < Builtin.Int.intBits b := bits_pos (by omega)
  have hb24 : Builtin.Int.intBits b ≤ 24 := intBits_le_iff.mpr (by omega)
  have hbn : b < 2 ^ Builtin.Int.intBits b := lt_bits (by omega) (Nat.le_refl _)
  generalize Builtin.Int.intBits b = n at *
  rename News _ _ _ _ => N9
  rename Fr _ _ _ _ => F9
  refine int2digits_con (n := n) B' F9 X' T' rfl rfl (by show dp + 1 ≤ 500; omega) (by show un + 3 ≤ 1000; omega) (News.sub N9 (by
    intro q hq
    rcases List.mem_cons.mp hq with rfl | hq
    · exact .tail _ (.head _)
    · exact .tail _ (.tail _ (.tail _ hq)))) hT C30 (by omega) hb0 ha (by omega) ?_
  intro q vs nd cnt h2 tk2 ps2 ex2 F2 N2 hI hcnt hac hT2 hne2 K2 hq heq2
  obtain ⟨c0, oc0, vs0, t0, rfl, rfl, hocd0, hocv0⟩ := hT2.resolve_left fun h => hne2 h.1
  have hc730 : c7 ≠ 30 := fun e => by
    have h1 := (N9 _ (.tail _ (.tail _ (.head _)))).1
    have h2 := (N9 _ (.tail _ (.head _))).1
    simp only [e] at h1
    rw [h1] at h2
    cases h2
    cases hocd7
    rcases hT with ⟨rfl, _⟩ | ⟨c, oc, vs, t, rfl, _⟩
    · cases hocv7
    · cases hocv7
  have N7 := News.rest (need := [(30, tabObj #[])]) (News.sub (ys := [(37, tabObj _), (c7, oc7)]) N9 (by
    intro q hq
    rcases List.mem_cons.mp hq with rfl | hq
    · exact .head _
    · rcases List.mem_singleton.mp hq with rfl
      exact .tail _ (.tail _ (.head _)))) K2 (by
    intro q hq
    rcases List.mem_cons.mp hq with rfl | hq
    · simp
    · rcases List.mem_singleton.mp hq with rfl
      simpa using hc730)
  have N3 := News.app N2 N7
  clear N9 F9 N7 N2
  simp only [List.cons_append, List.nil_append] at N3
  have hvl : vs.length ≤ 80 := by rw [hI.length, toDig_length]; exact hcnt
  k_steps
  rename_i qd _ lq _ D _ F0 N0 lD
  refine iter_rev rfl F0 (swap23 N0) ?off (fun i m₁ news₁ => ∃ rv tr tn vq nq, i ≤ vs.length ∧ (ldiv b n ((toDig n cnt a).reverse.take i) 0).2 = rv ∧ IntsAre vq (ldiv b n ((toDig n cnt a).reverse.take i) 0).1 ∧
    (∀ e ∈ [(Str.ofString "r", Value.int rv tr), (Str.ofString "b", .int b tb), (Str.ofString "n", .int n tn), (Str.ofString "q_digits", .ref qd)], m₁ e.1 = some e.2) ∧
    news₁ = [(qd, lstObj vq nq), (30, tabObj #[rawInt 32, rawInt 4, .ref c0]), (c0, oc0), (37, tabObj #[rawInt 47, rawInt 4, .ref c7]), (c7, oc7)]) ?h0 ?turn ?done
  case off =>
    simp only [List.forall_mem_cons]
    exact ⟨by k_ne, by k_ne, by k_ne, by k_ne, by k_ne, fun _ h => nomatch h⟩
  case h0 => exact ⟨0, _, _, [], 0, Nat.zero_le _, rfl, .nil, by kst_all, rfl⟩
  case turn =>
    intro i v m₁ news₁ it h tk hv hJ0 hic hoff hlI F1 N1
    refine hideG fun Gl kG => ?_
    obtain ⟨rv, tr, tn, vq, nq, hi, hrv, hqs, hm, rfl⟩ := hJ0
    replace F1 := fr_known hm F1
    obtain ⟨dg, td, rfl, hdg⟩ := (IntsAre.reverse hI).at i v hv
    have hlen : i < vs.length := by
      have := (List.getElem?_eq_some_iff.mp hv).1
      simpa using this
    have hdr := toDig_range n cnt a dg (List.mem_reverse.mp (List.mem_of_getElem? hdg))
    have hsp := ldiv_spec (n := n) hb ((toDig n cnt a).reverse.take i) 0 (fun x hx => toDig_range n cnt a x (List.mem_reverse.mp (List.mem_of_mem_take hx))) (Int.le_refl _) hb
    rw [hrv] at hsp
    obtain ⟨-, hr0, hr1, -⟩ := hsp
    have hpn : (2 : Int) ^ n ≤ 16777216 := by
      have : (2 : Nat) ^ n ≤ 2 ^ 24 := Nat.pow_le_pow_right (by decide) hb24
      rw [two_pow_nat]
      generalize 2 ^ n = z at *
      omega
    have hmul0 : 0 ≤ rv * 2 ^ ((n : Int)).toNat := Int.mul_nonneg hr0 (Int.le_of_lt (two_pos _))
    have hmul1 : rv * 2 ^ ((n : Int)).toNat ≤ 281474976710656 := by
      rw [Int.toNat_natCast]
      have := Int.mul_le_mul (a := rv) (c := 16777216) (b := 2 ^ n) (d := 16777216) (by omega) hpn (Int.le_of_lt (two_pos _)) (by omega)
      omega
    have hvq : vq.length ≤ 80 := by rw [hqs.length, ldiv_length, List.length_take]; omega
    have hstep := ldiv_snoc b n dg ((toDig n cnt a).reverse.take i) 0
    have htk : (toDig n cnt a).reverse.take (i + 1) = (toDig n cnt a).reverse.take i ++ [dg] := by rw [List.take_add_one, hdg]; rfl
    rw [← htk, hrv] at hstep
    refine kG ?_
    clear kG Gl
    k_steps
    rename Fr _ _ _ _ => F2
    rename News _ _ _ _ => N2
    refine div2n1n_con B' F2 X' T' rfl rfl (by show dp + 1 ≤ 500; omega) (by show un + 3 ≤ 1000; omega) hb (by omega) (by omega) (by omega) (by omega) ?_
    intro qt t1 t2 h3 tk3 F3 N3 K3 hqt
    have hqn := ne_new N2 hqt
    replace N3 := News.app N3 (News.kept N2 K3)
    clear N2 F2 N1 F1
    replace hqn := allNe_of hqn
    replace hoff := allNe_of hoff
    simp only [AllNe, and_true] at hqn hoff
    replace hqn := hqn.2.2.1
    replace hoff := HidD.mk hoff
    simp only [List.cons_append, List.nil_append] at N3
    k_steps
    rename Fr _ _ _ _ => F5
    rename News _ _ _ _ => N5
    simp only [Int.toNat_natCast, List.push_toArray] at N5 F5
    refine ⟨_, _, _, [(qd, lstObj (vq ++ [.int ((rv * 2 ^ n + dg) / b) t1]) (nq + 1)), (30, tabObj #[rawInt 32, rawInt 4, .ref c0]), (c0, oc0), (37, tabObj #[rawInt 47, rawInt 4, .ref c7]), (c7, oc7)], rfl, F5, News.sub N5 ?_, ?_, _, t2, tn, _, _, by omega, congrArg Prod.snd hstep, ?_, ?_, rfl⟩
    · simp only [List.forall_mem_cons]
      exact ⟨by k_mem, by k_mem, by k_mem, by k_mem, by k_mem, by k_mem, by k_mem, fun _ h => nomatch h⟩
    · simp only [List.forall_mem_cons]
      have ho := hoff.out
      exact ⟨ho.1, ho.2.1, ho.2.2.1, ho.2.2.2.1, ho.2.2.2.2, fun _ h => nomatch h⟩
    · rw [hstep]
      exact hqs.append (.cons _ _ .nil)
    · kst_all
  case done =>
    intro m₁ news₁ h tk hJ0 F1 N1
    refine hideG fun Gl kG => ?_
    obtain ⟨rv, tr, tn, vq, nq, hi, hrv, hqs, hm, rfl⟩ := hJ0
    replace F1 := fr_known hm F1
    have hvq : vq.length ≤ 80 := by rw [hqs.length, ldiv_length, List.length_take]; omega
    refine kG ?_
    clear kG Gl
    show wpAny _ _ _ _ _ _
    k_steps
    rename Fr _ _ _ _ => F2
    rename News _ _ _ _ => N2
    refine kl_reverse (its := vq.toArray) (n := nq) (l := vq.reverse) F2 N2 (by simp) (by k_upd) (by simp [sizeLine_eq]; omega) ?_
    intro h3 F3 N3
    clear F2 N2
    k_steps
    obtain ⟨hdq, hdv, hdr⟩ := ldiv_top (n := n) hb ha hac (qs := (ldiv b n ((toDig n cnt a).reverse.take vs.length) 0).1) (r := rv) (by
      rw [← hrv, List.take_of_length_le (by rw [List.length_reverse, hI.length]; exact Nat.le_refl _)])
    subst hdr
    rename Fr _ _ _ _ => F4
    rename News _ _ _ _ => N4
    have hrev := hqs.reverse
    refine digits2int_con (n := n) (vs := vq.reverse) (nd := nq) (ps := #[rawInt 47, rawInt 4, .ref c7]) (ex := [(c7, oc7)]) B' F4 X' T' rfl rfl (by show dp + 1 ≤ 500; omega) (by show un + 3 ≤ 1000; omega) (News.sub N4 (by
      simp only [List.forall_mem_cons]
      exact ⟨by k_mem, by k_mem, by k_mem, fun _ h => nomatch h⟩)) (.inr ⟨_, _, _, _, rfl, rfl, hocd7, hocv7⟩) C37 hrev (by rw [List.length_reverse, ldiv_length, List.length_take]; omega) (by omega) hdq ?_
    intro t9 h9 tk9 ps9 ex9 F9 N9 hT9 hne9 K9 heq9
    obtain ⟨K9, rfl, rfl⟩ := heq9 (by simp)
    replace N9 := News.kept N4 K9
    clear F4 N4
    rw [hdv]
    k_steps
    show Done _ _ _ _ _ _
    refine ⟨_, _, _, _, rfl, by assumption, by assumption, _, t9, tr, #[rawInt 32, rawInt 4, .ref c0], [(c0, oc0)], rfl, ?_, hT2, hne2, fun h => (heq2 h).2⟩
    simp only [List.cons_append, List.nil_append, List.forall_mem_cons]
    exact ⟨by k_mem, by k_mem, by k_mem, by k_mem, by k_mem, fun _ h => nomatch h⟩
end Mine
end SC4
section SC5
open PySem PySem.W PyProof.Rows PySem.Calls PySem.Spec
namespace Mine
theorem fill5 : (hd.heap_1 = hd.heap_1 ∧ PySem.Challenge.rw_rs0186_01 = PySem.Challenge.rw_rs0186_01) := by
  k_fill
  w_top off
  exact ⟨rfl, rfl⟩

section
variable (prog : Program) (w : World) (p : Program) (loose : List Str) (mean : ExcName → Option Value) (mg mb : Str → Option Value)
noncomputable def DivC (k : Nat) (ok : Int → Int → Prop) : Prop :=
  ∀ {dp un : Nat} {gd : Option (List Code)} {env : Env} {outer : List Env} {A₀ : Around} {base h₀ : Heap} {L : Addr} {m : Str → Option Value} {s : Shared}
    {Q E : Value → Shared → Prop} {a b : Int} {ta tb : Tok} {ps ps7 : Array Value} {ex ex7 : List (Addr × Obj)},
    Below A₀ base outer h₀ → Fr h₀ L s.heap m → (hd.heap_1 w.params).In h₀ → Top p loose mean mg mb h₀ → env.frame = some L → env.scope.kind = .function →
    dp ≤ k + 400 → un ≤ 4 * k → News h₀ L s.heap ((37, tabObj ps7) :: (30, tabObj ps) :: (ex7 ++ ex)) → TabIs 32 4 qI2D ps ex → TabIs 47 4 qD2I ps7 ex7 → ps7 ≠ #[] → CodeHd h₀ 34 30 → CodeHd h₀ 41 37 →
    ok a b → b ≠ 0 → b.natAbs < 16777216 → a.natAbs < 100000000000 →
    (∀ q t1 t2 h' tk' ps' ex', Fr h₀ L h' m → News h₀ L h' ((q, tupObj [.int (a.fdiv b) t1, .int (a - a.fdiv b * b) t2]) :: (37, tabObj ps7) :: (30, tabObj ps') :: (ex7 ++ ex')) → TabIs 32 4 qI2D ps' ex' → ps' ≠ #[] →
      Kept [(30, tabObj #[])] s.heap h' → s.heap.get? q = none → (ps ≠ #[] → Kept [] s.heap h' ∧ ps' = ps ∧ ex' = ex) → Q (.ref q) { s with heap := h', toks := tk' }) →
    wpAny (model prog w) (at_ dp un gd env outer) (call (.ref 56) [.int a ta, .int b tb]) Q E s
end
theorem div_ret {h₀ : Heap} {L : Addr} {m : Str → Option Value} {s : Shared} {Q : Value → Shared → Prop} {x y : Int} {ps ps7 : Array Value} {ex ex7 : List (Addr × Obj)}
    (N : News h₀ L s.heap ((37, tabObj ps7) :: (30, tabObj ps) :: (ex7 ++ ex))) (hT : TabIs 32 4 qI2D ps ex) (hT7 : TabIs 47 4 qD2I ps7 ex7)
    (hret : ∀ q t1 t2 h' tk' ps' ex', Fr h₀ L h' m → News h₀ L h' ((q, tupObj [.int x t1, .int y t2]) :: (37, tabObj ps7) :: (30, tabObj ps') :: (ex7 ++ ex')) → TabIs 32 4 qI2D ps' ex' → ps' ≠ #[] →
      Kept [(30, tabObj #[])] s.heap h' → s.heap.get? q = none → (ps ≠ #[] → Kept [] s.heap h' ∧ ps' = ps ∧ ex' = ex) → Q (.ref q) { s with heap := h', toks := tk' }) :
    ∀ v h' tk news', (∃ q t1 t2 ps' ex', v = .ref q ∧ (∀ e ∈ ((q, tupObj [.int x t1, .int y t2]) :: (37, tabObj ps7) :: (30, tabObj ps') :: (ex7 ++ ex')), e ∈ news') ∧ TabIs 32 4 qI2D ps' ex' ∧ ps' ≠ #[] ∧ (ps ≠ #[] → ps' = ps ∧ ex' = ex)) →
      Fr h₀ L h' m → News h₀ L h' news' → Kept ((37, tabObj ps7) :: (30, tabObj ps) :: (ex7 ++ ex)) s.heap h' → Fresh ((37, tabObj ps7) :: (30, tabObj ps) :: (ex7 ++ ex)) s.heap news' → Q v { s with heap := h', toks := tk } := by
  rintro v h' tk' news' ⟨q, t1, t2, ps', ex', rfl, hs, hT', hne', heq⟩ F' N' K' hfr
  have N2 := News.sub N' hs
  have hx7 : ∀ e ∈ ex7, ∃ fs, e.2.data = .fields fs := hT7.fields
  have hx' : ∀ e ∈ ex', ∃ fs, e.2.data = .fields fs := hT'.fields
  have m7 : ∀ e ∈ ex7, e ∈ news' := fun e he => hs e (.tail _ (.tail _ (.tail _ (List.mem_append_left _ he))))
  have m0 : ∀ e ∈ ex', e ∈ news' := fun e he => hs e (.tail _ (.tail _ (.tail _ (List.mem_append_right _ he))))
  have hemp : ps = #[] → ex = [] := fun h => hT.empty h
  have hq : s.heap.get? q = none := (hfr _ (hs _ (.head _))).resolve_left (not_old N' (hs _ (.head _)) ⟨_, _, rfl⟩ fun e he => by
    rcases List.mem_cons.mp he with h1 | h1
    · subst h1
      exact ⟨_, _, hs _ (.tail _ (.head _)), rfl⟩
    rcases List.mem_cons.mp h1 with h2 | h2
    · subst h2
      exact ⟨_, _, hs _ (.tail _ (.tail _ (.head _))), rfl⟩
    rcases List.mem_append.mp h2 with h3 | h3
    · exact ⟨_, _, m7 e h3, (hx7 e h3).choose_spec⟩
    · by_cases hp : ps = #[]
      · rw [hemp hp] at h3; cases h3
      · exact ⟨_, _, m0 e ((heq hp).2 ▸ h3), (hx' e ((heq hp).2 ▸ h3)).choose_spec⟩)
  refine hret q t1 t2 h' tk' ps' ex' F' N2 hT' hne' (kept_part N N' K' fun e he => ?_) hq fun hp => ⟨kept_part N N' K' fun e he => ?_, heq hp⟩
  · rcases List.mem_cons.mp he with h1 | h1
    · subst h1
      exact .inr (hs _ (.tail _ (.head _)))
    rcases List.mem_cons.mp h1 with h2 | h2
    · subst h2
      exact .inl (.head _)
    rcases List.mem_append.mp h2 with h3 | h3
    · exact .inr (m7 e h3)
    · by_cases hp : ps = #[]
      · rw [hemp hp] at h3; cases h3
      · exact .inr (m0 e ((heq hp).2 ▸ h3))
  · have h9 := heq hp
    exact .inr (hs e (.tail _ (by rw [h9.1, h9.2]; exact he)))

theorem bitNot_eq (x : Int) : Builtin.bitNot x = -x - 1 := by unfold Builtin.bitNot; lia
theorem fdiv_pos (a : Int) {b : Int} (hb : 0 < b) : a.fdiv b = a / b := Int.fdiv_eq_ediv_of_nonneg _ (Int.le_of_lt hb)
theorem div_inv {a b q r : Int} (hb : 0 < b) (hq : q = (-a - 1).fdiv b) (hr : r = (-a - 1) - (-a - 1).fdiv b * b) : -q - 1 = a.fdiv b ∧ b + (-r - 1) = a - a.fdiv b * b := by
  rw [fdiv_pos _ hb] at *
  have e1 := Int.mul_ediv_add_emod (-a - 1) b
  have e2 := Int.emod_nonneg (-a - 1) (Int.ne_of_gt hb)
  have e3 := Int.emod_lt_of_pos (-a - 1) hb
  have e4 := Int.mul_ediv_add_emod a b
  have e5 := Int.emod_nonneg a (Int.ne_of_gt hb)
  have e6 := Int.emod_lt_of_pos a hb
  have hm : b * ((-a - 1) / b + a / b + 1) = b - 1 - (-a - 1) % b - a % b := by
    rw [Int.mul_add, Int.mul_add, Int.mul_one]; omega
  have hz : (-a - 1) / b + a / b + 1 = 0 := by
    have lo : -b < b * ((-a - 1) / b + a / b + 1) := by rw [hm]; omega
    have hi : b * ((-a - 1) / b + a / b + 1) < b := by rw [hm]; omega
    generalize (-a - 1) / b + a / b + 1 = z at lo hi
    rcases Int.lt_trichotomy z 0 with h | h | h
    · have := Int.mul_le_mul_of_nonneg_left (show z ≤ -1 by omega) (Int.le_of_lt hb)
      rw [Int.mul_neg, Int.mul_one] at this; omega
    · exact h
    · have := Int.mul_le_mul_of_nonneg_left (show 1 ≤ z by omega) (Int.le_of_lt hb)
      rw [Int.mul_one] at this; omega
  have hq' : -q - 1 = a / b := by rw [hq]; omega
  refine ⟨hq', ?_⟩
  rw [hr, ← hq', hq]
  have h1 : (-((-a - 1) / b) - 1) * b = -((-a - 1) / b * b) - b := by rw [Int.sub_mul, Int.neg_mul, Int.one_mul]
  rw [h1]; lia
theorem div_neg {a b q r : Int} (hq : q = (-a).fdiv (-b)) (hr : r = (-a) - (-a).fdiv (-b) * (-b)) : q = a.fdiv b ∧ -r = a - a.fdiv b * b := by
  rw [Int.neg_fdiv_neg] at *
  refine ⟨hq, ?_⟩
  rw [hr, Int.mul_neg]; lia

set_option maxRecDepth 100000 in
set_option maxHeartbeats 8000000 in
theorem int_divmod_1 {prog : Program} {w : World} {p : Program} {loose : List Str} {mean : ExcName → Option Value} {mg mb : Str → Option Value} : DivC prog w p loose mean mg mb 45 (fun a b => 0 < b ∧ 0 ≤ a) := by
  intro dp un gd env outer A₀ base h₀ L m s Q E a b ta tb ps ps7 ex ex7 B F X T hf hke hdp hun N hT hT7 hne7 C30 C37 hok hb0 hb ha hret
  obtain ⟨hbp, hap⟩ := hok
  refine' call_need (need := _) (P := fun v news' => ∃ q t1 t2 ps' ex', v = .ref q ∧ (∀ e ∈ ((q, tupObj [.int (a.fdiv b) t1, .int (a - a.fdiv b * b) t2]) :: (37, tabObj ps7) :: (30, tabObj ps') :: (ex7 ++ ex')), e ∈ news') ∧ TabIs 32 4 qI2D ps' ex' ∧ ps' ≠ #[] ∧ (ps ≠ #[] → ps' = ps ∧ ex' = ex)) B F X N T
    (by exact rfl) hf hke (by show dp < recursionLimit; simp only [recursionLimit]; omega) (by k_is) (by k_is) (by exact rfl) (by exact rfl) (by exact rfl) (by exact rfl) (by exact rfl) (by decide) ?hret ?h
  case hret => exact div_ret N hT hT7 hret
  intro g L' h₁ tk hkp hlt F' N' B' X' T'
  have stay : h₀.StaysIn g := fun b o e => hkp b o (fun hb => by
    obtain ⟨q, hq, rfl⟩ := List.mem_map.mp hb
    have := (N q hq).2.2; rw [e] at this; cases this) (F.keep b o e)
  replace C30 : CodeHd g 34 30 := C30.keeps stay
  replace C37 : CodeHd g 41 37 := C37.keeps stay
  clear F N X T B
  show wpAny _ _ _ _ _ _
  k_fold
  k_steps
  · exfalso; omega
  rename News _ _ _ _ => N9
  rename Fr _ _ _ _ => F9
  refine divmod_pos_con B' F9 X' T' rfl rfl (by show dp + 1 ≤ 450; omega) (by show un + 3 ≤ 500; omega) N9 hT hT7 hne7 C30 C37 hbp (by omega) hap (by omega) ?_
  intro q t1 t2 h' tk' ps' ex' F2 N2 hT2 hne2 K2 hq heq2
  show Done _ _ _ _ _ _
  have e1 := fdiv_pos a hbp
  have e2 : a % b = a - a / b * b := by have := Int.mul_ediv_add_emod a b; rw [Int.mul_comm] at this; omega
  rw [e2, ← e1] at N2
  exact ⟨_, _, _, _, rfl, F2, N2, q, t1, t2, ps', ex', rfl, fun _ h => h, hT2, hne2, fun h => (heq2 h).2⟩
set_option maxRecDepth 100000 in
set_option maxHeartbeats 8000000 in
theorem int_divmod_2n {prog : Program} {w : World} {p : Program} {loose : List Str} {mean : ExcName → Option Value} {mg mb : Str → Option Value} : DivC prog w p loose mean mg mb 44 (fun a b => 0 < b ∧ a < 0) := by
  intro dp un gd env outer A₀ base h₀ L m s Q E a b ta tb ps ps7 ex ex7 B F X T hf hke hdp hun N hT hT7 hne7 C30 C37 hok hb0 hb ha hret
  obtain ⟨hbp, hap⟩ := hok
  refine' call_need (need := _) (P := fun v news' => ∃ q t1 t2 ps' ex', v = .ref q ∧ (∀ e ∈ ((q, tupObj [.int (a.fdiv b) t1, .int (a - a.fdiv b * b) t2]) :: (37, tabObj ps7) :: (30, tabObj ps') :: (ex7 ++ ex')), e ∈ news') ∧ TabIs 32 4 qI2D ps' ex' ∧ ps' ≠ #[] ∧ (ps ≠ #[] → ps' = ps ∧ ex' = ex)) B F X N T
    (by exact rfl) hf hke (by show dp < recursionLimit; simp only [recursionLimit]; omega) (by k_is) (by k_is) (by exact rfl) (by exact rfl) (by exact rfl) (by exact rfl) (by exact rfl) (by decide) ?hret ?h
  case hret => exact div_ret N hT hT7 hret
  intro g L' h₁ tk hkp hlt F' N' B' X' T'
  have stay : h₀.StaysIn g := fun b o e => hkp b o (fun hb => by
    obtain ⟨q, hq, rfl⟩ := List.mem_map.mp hb
    have := (N q hq).2.2; rw [e] at this; cases this) (F.keep b o e)
  replace C30 : CodeHd g 34 30 := C30.keeps stay
  replace C37 : CodeHd g 41 37 := C37.keeps stay
  clear F N X T B
  show wpAny _ _ _ _ _ _
  k_fold
  k_steps
  · exfalso; omega
  rename News _ _ _ _ => N9
  rename Fr _ _ _ _ => F9
  rw [show Builtin.bitNot a = -a - 1 from bitNot_eq a]
  refine int_divmod_1 B' F9 X' T' rfl rfl (by show dp + 1 ≤ 445; omega) (by show un + 3 ≤ 4 * 45; omega) N9 hT hT7 hne7 C30 C37 ⟨hbp, (by omega : 0 ≤ -a - 1)⟩ (by omega) (by omega) (by omega) ?_
  intro q t1 t2 h' tk' ps' ex' F2 N2 hT2 hne2 K2 hq heq2
  clear F9 N9
  k_steps
  rename News _ _ _ _ => N3
  simp only [bitNot_eq] at N3
  rw [(div_inv hbp rfl rfl).2, (div_inv hbp rfl rfl).1] at N3
  show Done _ _ _ _ _ _
  refine ⟨_, _, _, _, rfl, by assumption, N3, _, ?t1, ?t2, ps', ex', rfl, List.forall_mem_cons.mpr ⟨?m, fun e he => .tail _ (.tail _ he)⟩, hT2, hne2, fun h => (heq2 h).2⟩
  case m => exact .head _
theorem int_divmod_2 {prog : Program} {w : World} {p : Program} {loose : List Str} {mean : ExcName → Option Value} {mg mb : Str → Option Value} : DivC prog w p loose mean mg mb 44 (fun _ b => 0 < b) := by
  intro dp un gd env outer A₀ base h₀ L m s Q E a b ta tb ps ps7 ex ex7 B F X T hf hke hdp hun N hT hT7 hne7 C30 C37 hok hb0 hb ha hret
  by_cases h : 0 ≤ a
  · exact int_divmod_1 B F X T hf hke (by omega) (by omega) N hT hT7 hne7 C30 C37 ⟨hok, h⟩ hb0 hb ha hret
  · exact int_divmod_2n B F X T hf hke (by omega) (by omega) N hT hT7 hne7 C30 C37 ⟨hok, by omega⟩ hb0 hb ha hret
set_option maxRecDepth 100000 in
set_option maxHeartbeats 8000000 in
theorem int_divmod_3n {prog : Program} {w : World} {p : Program} {loose : List Str} {mean : ExcName → Option Value} {mg mb : Str → Option Value} : DivC prog w p loose mean mg mb 43 (fun a b => b < 0) := by
  intro dp un gd env outer A₀ base h₀ L m s Q E a b ta tb ps ps7 ex ex7 B F X T hf hke hdp hun N hT hT7 hne7 C30 C37 hok hb0 hb ha hret
  have hbn : b < 0 := hok
  refine' call_need (need := _) (P := fun v news' => ∃ q t1 t2 ps' ex', v = .ref q ∧ (∀ e ∈ ((q, tupObj [.int (a.fdiv b) t1, .int (a - a.fdiv b * b) t2]) :: (37, tabObj ps7) :: (30, tabObj ps') :: (ex7 ++ ex')), e ∈ news') ∧ TabIs 32 4 qI2D ps' ex' ∧ ps' ≠ #[] ∧ (ps ≠ #[] → ps' = ps ∧ ex' = ex)) B F X N T
    (by exact rfl) hf hke (by show dp < recursionLimit; simp only [recursionLimit]; omega) (by k_is) (by k_is) (by exact rfl) (by exact rfl) (by exact rfl) (by exact rfl) (by exact rfl) (by decide) ?hret ?h
  case hret => exact div_ret N hT hT7 hret
  intro g L' h₁ tk hkp hlt F' N' B' X' T'
  have stay : h₀.StaysIn g := fun b o e => hkp b o (fun hb => by
    obtain ⟨q, hq, rfl⟩ := List.mem_map.mp hb
    have := (N q hq).2.2; rw [e] at this; cases this) (F.keep b o e)
  replace C30 : CodeHd g 34 30 := C30.keeps stay
  replace C37 : CodeHd g 41 37 := C37.keeps stay
  clear F N X T B
  show wpAny _ _ _ _ _ _
  k_fold
  k_steps
  · exfalso; omega
  rename News _ _ _ _ => N9
  rename Fr _ _ _ _ => F9
  refine int_divmod_2 B' F9 X' T' rfl rfl (by show dp + 1 ≤ 444; omega) (by show un + 3 ≤ 4 * 44; omega) N9 hT hT7 hne7 C30 C37 (show 0 < -b by omega) (by omega) (by omega) (by omega) ?_
  intro q t1 t2 h' tk' ps' ex' F2 N2 hT2 hne2 K2 hq heq2
  clear F9 N9
  k_steps
  rename News _ _ _ _ => N3
  rw [(div_neg rfl rfl).2, (div_neg rfl rfl).1] at N3
  show Done _ _ _ _ _ _
  refine ⟨_, _, _, _, rfl, by assumption, N3, _, ?t1, ?t2, ps', ex', rfl, List.forall_mem_cons.mpr ⟨?m, fun e he => .tail _ (.tail _ he)⟩, hT2, hne2, fun h => (heq2 h).2⟩
  case m => exact .head _
theorem int_divmod_con {prog : Program} {w : World} {p : Program} {loose : List Str} {mean : ExcName → Option Value} {mg mb : Str → Option Value} : DivC prog w p loose mean mg mb 43 (fun _ _ => True) := by
  intro dp un gd env outer A₀ base h₀ L m s Q E a b ta tb ps ps7 ex ex7 B F X T hf hke hdp hun N hT hT7 hne7 C30 C37 hok hb0 hb ha hret
  by_cases h : 0 < b
  · exact int_divmod_2 B F X T hf hke (by omega) (by omega) N hT hT7 hne7 C30 C37 h hb0 hb ha hret
  · exact int_divmod_3n B F X T hf hke (by omega) (by omega) N hT hT7 hne7 C30 C37 (show b < 0 by omega) hb0 hb ha hret
end Mine
end SC5
section SC6
open PySem PySem.W PyProof.Rows PySem.Calls PySem.Spec
namespace Mine
theorem fill6 : (hd.heap_1 = hd.heap_1 ∧ PySem.Challenge.rw_rs0186_01 = PySem.Challenge.rw_rs0186_01) := by
  k_fill
  w_top off
  exact ⟨rfl, rfl⟩
noncomputable def DeedAt (d : Deed) (o : Obj) : Prop := ∃ t1 t2 t3, o = tupObj [.int d.kind t1, .int d.amount t2, .str d.remark t3]
theorem draw_leaf {g : Heap} {L' : Addr} {s : Shared} {h' : Heap} {tk : Nat} {m' : Str → Option Value} {news' : List (Addr × Obj)} {d : Deed} {q : Addr} {k a : Int} {r : Str} {t1 t2 t3 : Tok}
    (F : Fr g L' h' m') (N : News g L' h' news') (hm : (q, tupObj [.int k t1, .int a t2, .str r t3]) ∈ news') (e1 : k = d.kind) (e2 : a = d.amount) (e3 : r = d.remark) :
    Done g L' s (fun v news' => ∃ q o, v = .ref q ∧ (q, o) ∈ news' ∧ DeedAt d o) (.ret (.ref q)) { s with heap := h', toks := tk } :=
  ⟨h', tk, m', news', rfl, F, N, q, _, rfl, hm, t1, t2, t3, by rw [e1, e2, e3]⟩
set_option maxRecDepth 100000 in
set_option maxHeartbeats 8000000 in
theorem law_draw_con {prog : Program} {w : World} {p : Program} {loose : List Str} {mean : ExcName → Option Value} {mg mb : Str → Option Value}
    {dp un : Nat} {gd : Option (List Code)} {env : Env} {outer : List Env} {A₀ : Around} {base h₀ : Heap} {L : Addr} {m : Str → Option Value} {s : Shared}
    {Q E : Value → Shared → Prop} {t kn : Int} {tt tk0 : Tok}
    (B : Below A₀ base outer h₀) (F : Fr h₀ L s.heap m) (X : (hd.heap_1 w.params).In h₀) (T : Top p loose mean mg mb h₀) (hf : env.frame = some L) (hke : env.scope.kind = .function)
    (hdp : dp ≤ 450) (hun : un ≤ 500) (hk : kn = 3 ∨ kn = 6)
    (hret : ∀ q o h' tk', Fr h₀ L h' m → News h₀ L h' [(q, o)] → DeedAt (drawD t kn) o → Kept [] s.heap h' → s.heap.get? q = none → Q (.ref q) { s with heap := h', toks := tk' }) :
    wpAny (model prog w) (at_ dp un gd env outer) (call (.ref 87) [.int t tt, .int kn tk0]) Q E s := by
  refine' call_need (need := []) (P := fun v news' => ∃ q o, v = .ref q ∧ (q, o) ∈ news' ∧ DeedAt (drawD t kn) o) B F X (fun _ h => nomatch h) T
    (by exact rfl) hf hke (by show dp < recursionLimit; simp only [recursionLimit]; omega) (by k_is) (by k_is) (by exact rfl) (by exact rfl) (by exact rfl) (by exact rfl) (by exact rfl) (by decide) ?hret ?h
  case hret =>
    rintro v h' tk news' ⟨q, o, rfl, hq, hd⟩ F' N' hk hfr
    exact hret q o h' tk F' (News.sub N' (by simpa using hq)) hd hk ((hfr _ hq).elim (fun h => nomatch h) id)
  intro g L' h₁ tk hkp hlt F' N' B' X' T'
  clear F T B
  show wpAny _ _ _ _ _ _
  k_fold
  k_steps
  all_goals (
    rename Int.fmod _ 6 = _ => hE
    refine draw_leaf (by assumption) (by assumption) (.head _) rfl ?_ ?_
    · show _ = amtOf t kn
      unfold amtOf
      (repeat' split) <;> omega
    · show _ = remOf _
      rw [hE]; rfl)
end Mine
end SC6
section SC7
open PySem PySem.W PyProof.Rows PySem.Calls PySem.Spec
namespace Mine
theorem fill7 : (hd.heap_1 = hd.heap_1 ∧ PySem.Challenge.rw_rs0186_01 = PySem.Challenge.rw_rs0186_01) := by
  k_fill
  w_top off
  exact ⟨rfl, rfl⟩
local macro_rules | `(tactic| walk_at "exec For Tuple Name cons nil") => `(tactic| (k_here; (rename Fr _ _ _ _ => lF'); (with_unfolding_all refine' For_turns lF' ?_; k_whole)))

structure Hide7 (P : Prop) : Prop where
  out : P
/-- a list of tuples, each a deed -/
noncomputable def DeedsAt (h : Heap) (vs : List Value) (ds : List Deed) : Prop := vs.length = ds.length ∧ ∀ (i : Nat) (v : Value), vs[i]? = some v → ∃ (q : Addr) (o : Obj) (d : Deed), v = Value.ref q ∧ ds[i]? = some d ∧ h.get? q = some o ∧ DeedAt d o

theorem dig_len {n : Int} (h0 : 0 ≤ n) (h1 : n < 10) : (Str.ofString (toString n)).length = 1 := by
  have : n = 0 ∨ n = 1 ∨ n = 2 ∨ n = 3 ∨ n = 4 ∨ n = 5 ∨ n = 6 ∨ n = 7 ∨ n = 8 ∨ n = 9 := by lia
  rcases this with rfl | rfl | rfl | rfl | rfl | rfl | rfl | rfl | rfl | rfl <;> decide +kernel
theorem ln1 : (Str.ofString "~(").length = 2 := by decide
theorem ln2 : (Str.ofString ")").length = 1 := by decide
theorem ln3 : (Str.ofString "-(").length = 2 := by decide
theorem ln4 : (Str.ofString "(").length = 1 := by decide
theorem ln5 : (Str.ofString "//").length = 2 := by decide
theorem ln6 : (Str.ofString "//-").length = 3 := by decide
theorem ln7 : (Str.ofString ">>").length = 2 := by decide
theorem ln8 : (Str.ofString "+").length = 1 := by decide
noncomputable def JW (ds : List Deed) (i : Nat) (m₁ : Str → Option Value) (news₁ : List (Addr × Obj)) : Prop :=
  ∃ tx tt, (∀ e ∈ [(Str.ofString "text", Value.str tx tt)], m₁ e.1 = some e.2) ∧ tx = written (ds.take i) ∧ tx.length ≤ 1 + 30 * i ∧ i ≤ ds.length ∧ news₁ = []
theorem written_snoc {ds : List Deed} {i : Nat} {d : Deed} (h : ds[i]? = some d) : written (ds.take (i + 1)) = writeD (written (ds.take i)) d := by
  unfold written
  rw [List.take_add_one, h]
  simp
theorem write_leaf {g : Heap} {L I : Addr} {it : Obj} {lp : Addr × Obj} {ds : List Deed} {i : Nat} {s : Shared} {Q : Flow → Shared → Prop} {h' : Heap} {tk : Nat} {m' : Str → Option Value} {news' : List (Addr × Obj)} {tx : Str} {tt : Tok}
    (F : Fr g L h' m') (N : News g L h' news') (hI : (I, it) ∈ news') (hl : lp ∈ news') (hm : m' (Str.ofString "text") = some (.str tx tt)) (hw : tx = written (ds.take (i + 1))) (hlen : tx.length ≤ 1 + 30 * (i + 1)) (hi : i + 1 ≤ ds.length) :
    TurnEnd g L I it lp (JW ds (i + 1)) s Q .next { s with heap := h', toks := tk } :=
  ⟨h', tk, m', [], rfl, F, News.sub N (by
    intro q hq
    rcases List.mem_cons.mp hq with rfl | hq
    · exact hI
    · rcases List.mem_singleton.mp hq with rfl
      exact hl), (fun _ h => nomatch h), tx, tt, (by simpa using hm), hw, hlen, hi, rfl⟩
theorem add_b {prog : Program} {w : World} {A : Around} {E : Value → Shared → Prop} {s : Shared} {x y : Str} {t u : Tok} {Q : Value → Shared → Prop} {K L : Nat}
    (hx : x.length ≤ K) (hy : y.length ≤ L) (hs : K + L ≤ 16777216) (h : ∀ t' k, (x ++ y).length ≤ K + L → Q (.str (x ++ y) t') { s with toks := k }) : wpAny (model prog w) A (binaryOp .Add (.str x t) (.str y u)) Q E s :=
  KXadd.add hx hy hs fun t' k hl => h t' k (Nat.le_trans hl.2 (Nat.add_le_add hx hy))
theorem iadd_b {prog : Program} {w : World} {A : Around} {E : Value → Shared → Prop} {s : Shared} {x y : Str} {t u : Tok} {Q : Value → Shared → Prop} {K L : Nat}
    (hx : x.length ≤ K) (hy : y.length ≤ L) (hs : K + L ≤ 16777216) (h : ∀ t' k, Q (.str (x ++ y) t') { s with toks := k }) : wpAny (model prog w) A (inplaceOp .Add (.str x t) (.str y u)) Q E s :=
  SBL.iadd (hsz := Nat.le_trans (Nat.add_le_add hx hy) hs) fun t' k _ => h t' k
local macro_rules | `(tactic| walk_at "binaryOp Add str str") => `(tactic| (k_here; (with_reducible show wpAny _ _ (binaryOp Operator.Add (Value.str _ _) (Value.str _ _)) _ _ _); (refine' add_b ?kxaa ?kxab ?kxac ?_; (case kxaa => (with_reducible assumption)); (case kxab => (with_reducible assumption)); (case kxac => exact Nat.le_of_ble_eq_true rfl)); intro _ _ _))
local macro_rules | `(tactic| walk_at "inplaceOp Add str str") => `(tactic| (k_here; (refine' iadd_b ?kxaa ?kxab ?kxac ?_; (case kxaa => (with_reducible assumption)); (case kxab => (with_reducible assumption)); (case kxac => exact Nat.le_of_ble_eq_true rfl)); intro _ _))
set_option maxRecDepth 100000 in
set_option maxHeartbeats 8000000 in
theorem law_write_con {prog : Program} {w : World} {p : Program} {loose : List Str} {mean : ExcName → Option Value} {mg mb : Str → Option Value}
    {dp un : Nat} {gd : Option (List Code)} {env : Env} {outer : List Env} {A₀ : Around} {base h₀ : Heap} {L : Addr} {m : Str → Option Value} {s : Shared}
    {Q E : Value → Shared → Prop} {l : Addr} {vs : List Value} {nd : Nat} {ds : List Deed}
    (B : Below A₀ base outer h₀) (F : Fr h₀ L s.heap m) (X : (hd.heap_1 w.params).In h₀) (T : Top p loose mean mg mb h₀) (hf : env.frame = some L) (hke : env.scope.kind = .function)
    (hdp : dp ≤ 450) (hun : un ≤ 500) (N : News h₀ L s.heap [(l, lstObj vs nd)]) (hds : DeedsAt s.heap vs ds) (hlen : ds.length ≤ 10) (hk : ∀ d ∈ ds, 0 ≤ d.kind ∧ d.kind < 6 ∧ 0 ≤ d.amount ∧ d.amount < 64 ∧ d.remark.length ≤ 10)
    (hret : ∀ t h' tk', Fr h₀ L h' m → Kept [] s.heap h' → (written ds).length ≤ 301 → Q (.str (written ds) t) { s with heap := h', toks := tk' }) :
    wpAny (model prog w) (at_ dp un gd env outer) (call (.ref 94) [.ref l]) Q E s := by
  refine' call_need (need := [(l, lstObj vs nd)]) (P := fun v news' => ∃ t, v = .str (written ds) t ∧ (written ds).length ≤ 301 ∧ (l, lstObj vs nd) ∈ news') B F X N T
    (by exact rfl) hf hke (by show dp < recursionLimit; simp only [recursionLimit]; omega) (by k_is) (by k_is) (by exact rfl) (by exact rfl) (by exact rfl) (by exact rfl) (by exact rfl) (by decide) ?hret ?h
  case hret =>
    rintro v h' tk news' ⟨t, rfl, hle, hl⟩ F' N' hk hfr
    exact hret t h' tk F' (kept_all N N' (by simpa using hl) hk) hle
  intro g L' h₁ tk hkp hlt F' N' B' X' T'
  have hql : ∀ q o, s.heap.get? q = some o → o.cls = .type "tuple" → q ≠ l := fun q o h1 h2 e => by
    have h3 := (N _ (.head _)).1
    simp only [← e] at h3
    rw [h1] at h3
    rw [Option.some.inj h3] at h2
    simp at h2
  clear F T B N
  show wpAny _ _ _ _ _ _
  k_fold
  k_steps
  rename News _ _ _ _ => N0
  rename Fr _ _ _ _ => F0
  refine iter_list rfl F0 N0 (JW ds) ?h0 ?turn ?done
  case h0 => exact ⟨_, _, by kst_all, rfl, (by decide : (Str.ofString "x").length ≤ 1 + 30 * 0), Nat.zero_le _, rfl⟩
  case turn =>
    intro I i v m₁ news₁ it h tk hv hJ0 hic hoff hlI F1 N1
    refine hideG fun Gl kG => ?_
    obtain ⟨tx, tt, hm, hw, htx, hi, rfl⟩ := hJ0
    replace F1 := fr_known hm F1
    obtain ⟨q, o, d, rfl, hd, hq, t1, t2, t3, rfl⟩ := hds.2 i v hv
    have hil := (List.getElem?_eq_some_iff.mp hd).1
    have hkd := hk d (List.mem_of_getElem? hd)
    obtain ⟨kind, amount, remark⟩ := d
    dsimp only at hkd
    obtain ⟨hk0, hk1, ha0, ha1, hr⟩ := hkd
    have hT : IsTup h q #[.int kind t1, .int amount t2, .str remark t3] := ⟨_, F1.keep q _ (hkp q _ (fun hm9 => hql q _ hq rfl (List.mem_singleton.mp hm9)) hq), rfl, 0, rfl⟩
    have hv1 : 0 ≤ amount.fdiv 8 ∧ amount.fdiv 8 ≤ 7 := by rw [Int.fdiv_eq_ediv_of_nonneg _ (by decide)]; omega
    have hv2 : 0 ≤ amount.fmod 8 ∧ amount.fmod 8 ≤ 7 := by rw [Int.fmod_eq_emod_of_nonneg _ (by decide)]; omega
    obtain ⟨hv10, hv11⟩ := hv1
    obtain ⟨hv20, hv21⟩ := hv2
    have hf1 := dig_len (n := amount.fdiv 8) (by rw [Int.fdiv_eq_ediv_of_nonneg _ (by decide)]; omega) (by rw [Int.fdiv_eq_ediv_of_nonneg _ (by decide)]; omega)
    have hf2 := dig_len (n := amount.fmod 8) (by rw [Int.fmod_eq_emod_of_nonneg _ (by decide)]; omega) (by rw [Int.fmod_eq_emod_of_nonneg _ (by decide)]; omega)
    have htx9 : tx.length ≤ 301 := by omega
    have l1 := Nat.le_of_eq ln1
    have l2 := Nat.le_of_eq ln2
    have l3 := Nat.le_of_eq ln3
    have l4 := Nat.le_of_eq ln4
    have l5 := Nat.le_of_eq ln5
    have l6 := Nat.le_of_eq ln6
    have l7 := Nat.le_of_eq ln7
    have l8 := Nat.le_of_eq ln8
    have hg1 := Nat.le_of_eq hf1
    have hg2 := Nat.le_of_eq hf2
    replace htx := Hide7.mk htx
    clear hv
    refine kG ?_
    clear kG Gl
    show wpAny _ _ _ _ _ _
    k_steps
    all_goals (
      replace htx := htx.out
      refine write_leaf (by assumption) (by assumption) (by k_mem) (by k_mem) (by with_unfolding_all rfl) ?_ ?_ (by omega)
      · rw [written_snoc hd, ← hw]
        simp only [writeD, opOf]
        (repeat' split) <;> first | rfl | omega
      · simp only [Str.length_append, ln1, ln2, ln3, ln4, ln5, ln6, ln7, ln8, hf1, hf2]
        omega)
  case done =>
    intro m₁ news₁ h tk hJ0 F1 N1
    refine hideG fun Gl kG => ?_
    obtain ⟨tx, tt, hm, hw, htx, hi, rfl⟩ := hJ0
    replace F1 := fr_known hm F1
    refine kG ?_
    clear kG Gl
    show wpAny _ _ _ _ _ _
    k_steps
    have hvd := hds.1
    rw [List.take_of_length_le (by omega)] at hw
    subst hw
    exact ⟨_, _, _, _, rfl, by assumption, by assumption, _, rfl, by omega, by k_mem⟩
end Mine
end SC7
section SC8
open PySem PySem.W PyProof.Rows PySem.Calls PySem.Spec
namespace Mine
theorem fill8 : (hd.heap_1 = hd.heap_1 ∧ PySem.Challenge.rw_rs0186_01 = PySem.Challenge.rw_rs0186_01) := by
  k_fill
  w_top off
  exact ⟨rfl, rfl⟩
local macro_rules | `(tactic| walk_at "exec If") => `(tactic| (k_here; refine wpAny_If ?_))
local macro_rules | `(tactic| walk_at "exec For Tuple Name cons nil") => `(tactic| (k_here; (rename Fr _ _ _ _ => lF'); (with_unfolding_all refine' For_turns lF' ?_; k_whole)))
noncomputable def JH (ds : List Deed) (i : Nat) (m₁ : Str → Option Value) (news₁ : List (Addr × Obj)) : Prop :=
  ∃ side plus size t1 t2 t3, (∀ e ∈ [(Str.ofString "side", Value.int side t1), (Str.ofString "plus", .int plus t2), (Str.ofString "size", .int size t3)], m₁ e.1 = some e.2) ∧ (side, plus, size) = whole (ds.take i) ∧ i ≤ ds.length ∧ news₁ = []
theorem whole_snoc {ds : List Deed} {i : Nat} {d : Deed} (h : ds[i]? = some d) : whole (ds.take (i + 1)) = wholeStep (whole (ds.take i)) d := by
  unfold whole
  rw [List.take_add_one, h]
  simp
theorem whole_leaf {g : Heap} {L I : Addr} {it : Obj} {lp : Addr × Obj} {ds : List Deed} {i : Nat} {s : Shared} {Q : Flow → Shared → Prop} {h' : Heap} {tk : Nat} {m' : Str → Option Value} {news' : List (Addr × Obj)} {a b c : Int} {t1 t2 t3 : Tok}
    (F : Fr g L h' m') (N : News g L h' news') (hI : (I, it) ∈ news') (hl : lp ∈ news') (h1 : m' (Str.ofString "side") = some (.int a t1)) (h2 : m' (Str.ofString "plus") = some (.int b t2)) (h3 : m' (Str.ofString "size") = some (.int c t3))
    (hw : (a, b, c) = whole (ds.take (i + 1))) (hi : i + 1 ≤ ds.length) :
    TurnEnd g L I it lp (JH ds (i + 1)) s Q .next { s with heap := h', toks := tk } :=
  ⟨h', tk, m', [], rfl, F, News.sub N (by
    intro q hq
    rcases List.mem_cons.mp hq with rfl | hq
    · exact hI
    · rcases List.mem_singleton.mp hq with rfl
      exact hl), (fun _ h => nomatch h), a, b, c, t1, t2, t3, (by simp only [List.forall_mem_cons]; exact ⟨h1, h2, h3, fun _ h => nomatch h⟩), hw, hi, rfl⟩
set_option maxRecDepth 100000 in
set_option maxHeartbeats 8000000 in
theorem law_whole_con {prog : Program} {w : World} {p : Program} {loose : List Str} {mean : ExcName → Option Value} {mg mb : Str → Option Value}
    {dp un : Nat} {gd : Option (List Code)} {env : Env} {outer : List Env} {A₀ : Around} {base h₀ : Heap} {L : Addr} {m : Str → Option Value} {s : Shared}
    {Q E : Value → Shared → Prop} {l : Addr} {vs : List Value} {nd : Nat} {ds : List Deed}
    (B : Below A₀ base outer h₀) (F : Fr h₀ L s.heap m) (X : (hd.heap_1 w.params).In h₀) (T : Top p loose mean mg mb h₀) (hf : env.frame = some L) (hke : env.scope.kind = .function)
    (hdp : dp ≤ 450) (hun : un ≤ 500) (N : News h₀ L s.heap [(l, lstObj vs nd)]) (hds : DeedsAt s.heap vs ds) (hlen : ds.length ≤ 10) (hk : ∀ d ∈ ds, 0 ≤ d.kind ∧ d.kind < 6 ∧ 0 ≤ d.amount ∧ d.amount < 64 ∧ (d.kind = 2 → d.amount ≤ 3))
    (hret : ∀ q t1 t2 t3 h' tk', Fr h₀ L h' m → News h₀ L h' [(q, tupObj [.int (whole ds).1 t1, .int (whole ds).2.1 t2, .int (whole ds).2.2 t3])] → Kept [] s.heap h' → s.heap.get? q = none → Q (.ref q) { s with heap := h', toks := tk' }) :
    wpAny (model prog w) (at_ dp un gd env outer) (call (.ref 122) [.ref l]) Q E s := by
  refine' call_need (need := [(l, lstObj vs nd)]) (P := fun v news' => ∃ q t1 t2 t3, v = .ref q ∧ (q, tupObj [.int (whole ds).1 t1, .int (whole ds).2.1 t2, .int (whole ds).2.2 t3]) ∈ news' ∧ (l, lstObj vs nd) ∈ news') B F X N T
    (by exact rfl) hf hke (by show dp < recursionLimit; simp only [recursionLimit]; omega) (by k_is) (by k_is) (by exact rfl) (by exact rfl) (by exact rfl) (by exact rfl) (by exact rfl) (by decide) ?hret ?h
  case hret =>
    rintro v h' tk news' ⟨q, t1, t2, t3, rfl, hq, hl⟩ F' N' hk hfr
    refine hret q t1 t2 t3 h' tk F' (News.sub N' (by simpa using hq)) (kept_all N N' (by simpa using hl) hk) ((hfr _ hq).resolve_left fun hm => ?_)
    have e : q = l := List.mem_singleton.mp hm
    subst e
    have a := (N' _ hq).1
    have b := (N' _ hl).1
    simp only at a b
    rw [a] at b
    have c := congrArg Obj.cls (Option.some.inj b)
    simp at c
  intro g L' h₁ tk hkp hlt F' N' B' X' T'
  have hql : ∀ q o, s.heap.get? q = some o → o.cls = .type "tuple" → q ≠ l := fun q o h1 h2 e => by
    have h3 := (N _ (.head _)).1
    simp only [← e] at h3
    rw [h1] at h3
    have h4 : (lstObj vs nd).cls = .type "tuple" := Option.some.inj h3 ▸ h2
    exact absurd h4 (by simp)
  clear F T B N
  show wpAny _ _ _ _ _ _
  k_fold
  k_steps
  rename News _ _ _ _ => N0
  rename Fr _ _ _ _ => F0
  refine iter_list rfl F0 N0 (JH ds) ?h0 ?turn ?done
  case h0 => exact ⟨_, _, _, _, _, _, by kst_all, rfl, Nat.zero_le _, rfl⟩
  case turn =>
    intro I i v m₁ news₁ it h tk hv hJ0 hic hoff hlI F1 N1
    refine hideG fun Gl kG => ?_
    obtain ⟨side, plus, size, ts, tp, tz, hm, hw, hi, rfl⟩ := hJ0
    replace F1 := fr_known hm F1
    obtain ⟨q, o, d, rfl, hd, hq, t1, t2, t3, rfl⟩ := hds.2 i v hv
    have hil := (List.getElem?_eq_some_iff.mp hd).1
    have hkd := hk d (List.mem_of_getElem? hd)
    obtain ⟨kind, amount, remark⟩ := d
    dsimp only at hkd
    obtain ⟨hk0, hk1, ha0, ha1, hr⟩ := hkd
    have hT : IsTup h q #[.int kind t1, .int amount t2, .str remark t3] := ⟨_, F1.keep q _ (hkp q _ (fun hm9 => hql q _ hq rfl (List.mem_singleton.mp hm9)) hq), rfl, 0, rfl⟩
    have hpw0 : 0 ≤ (2 : Int) ^ amount.toNat := Int.le_of_lt (Int.pow_pos (by decide))
    have hpw1 : (2 : Int) ^ amount.toNat ≤ 9223372036854775808 := by
      have : (2 : Nat) ^ amount.toNat ≤ 2 ^ 63 := Nat.pow_le_pow_right (by decide) (by omega)
      rw [two_pow_nat]
      generalize 2 ^ amount.toNat = z at *
      omega
    clear hv
    have hkk : kind = 0 ∨ kind = 1 ∨ kind = 2 ∨ kind = 3 ∨ kind = 4 ∨ kind = 5 := by omega
    rcases hkk with rfl | rfl | rfl | rfl | rfl | rfl
    all_goals (
      refine kG ?_
      clear kG Gl
      clear hk0 hk1
      show wpAny _ _ _ _ _ _
      k_steps
      refine whole_leaf (by assumption) (by assumption) (by k_mem) (by k_mem) (by with_unfolding_all rfl) (by with_unfolding_all rfl) (by with_unfolding_all rfl) ?_ (by omega)
      rw [whole_snoc hd, ← hw]
      simp [wholeStep, wSide, wPlus, wSize])
  case done =>
    intro m₁ news₁ h tk hJ0 F1 N1
    refine hideG fun Gl kG => ?_
    obtain ⟨side, plus, size, ts, tp, tz, hm, hw, hi, rfl⟩ := hJ0
    replace F1 := fr_known hm F1
    have hvd := hds.1
    rw [List.take_of_length_le (by omega)] at hw
    refine kG ?_
    clear kG Gl
    show wpAny _ _ _ _ _ _
    k_steps
    show Done _ _ _ _ _ _
    refine ⟨_, _, _, _, rfl, by assumption, by assumption, _, ts, tp, tz, rfl, ?_, ?_⟩
    · rw [← hw]; exact .head _
    · k_mem
end Mine
end SC8
section SC11
open PySem PySem.W PyProof.Rows PySem.Calls PySem.Spec
namespace Mine
theorem fill11 : (hd.heap_1 = hd.heap_1 ∧ PySem.Challenge.rw_rs0186_01 = PySem.Challenge.rw_rs0186_01) := by
  k_fill
  w_top off
  exact ⟨rfl, rfl⟩
set_option maxRecDepth 100000 in
set_option maxHeartbeats 8000000 in
theorem isnt_con {prog : Program} {w : World} {p : Program} {loose : List Str} {mean : ExcName → Option Value} {mg mb : Str → Option Value}
    {dp un : Nat} {gd : Option (List Code)} {env : Env} {outer : List Env} {A₀ : Around} {base h₀ : Heap} {L : Addr} {m : Str → Option Value} {s : Shared}
    {Q E : Value → Shared → Prop} {x : Int} {t : Tok}
    (B : Below A₀ base outer h₀) (F : Fr h₀ L s.heap m) (X : (hd.heap_1 w.params).In h₀) (T : Top p loose mean mg mb h₀) (hf : env.frame = some L) (hke : env.scope.kind = .function)
    (hdp : dp ≤ 451) (hun : un ≤ 503)
    (hret : ∀ h' tk', Fr h₀ L h' m → Kept [] s.heap h' → Q (.bool (decide (256 ≤ x))) { s with heap := h', toks := tk' }) :
    wpAny (model prog w) (at_ dp un gd env outer) (call (.ref 80) [.int x t]) Q E s := by
  refine' call_need (need := []) (P := fun v news' => v = .bool (decide (256 ≤ x))) B F X (fun _ h => nomatch h) T
    (by exact rfl) hf hke (by show dp < recursionLimit; simp only [recursionLimit]; omega) (by k_is) (by k_is) (by exact rfl) (by exact rfl) (by exact rfl) (by exact rfl) (by exact rfl) (by decide) ?hret ?h
  case hret =>
    rintro v h' tk news' rfl F' N' hk hfr
    exact hret h' tk F' hk
  intro g L' h₁ tk hkp hlt F' N' B' X' T'
  clear F T B
  show wpAny _ _ _ _ _ _
  k_fold
  k_steps
  exact ⟨_, _, _, _, rfl, by assumption, by assumption, by simp⟩
end Mine
end SC11
section SC9
open PySem PySem.W PyProof.Rows PySem.Calls PySem.Spec
namespace Mine
theorem fill9 : (hd.heap_1 = hd.heap_1 ∧ PySem.Challenge.rw_rs0186_01 = PySem.Challenge.rw_rs0186_01) := by
  k_fill
  w_top off
  exact ⟨rfl, rfl⟩
local macro_rules | `(tactic| walk_at "exec For Tuple Name cons nil") => `(tactic| (k_here; (rename Fr _ _ _ _ => lF'); (with_unfolding_all refine' For_turns lF' ?_; k_whole)))
local macro_rules | `(tactic| walk_at "call builtin:list.append") => `(tactic| (k_here; (with_reducible show wpAny _ _ (call (Value.builtin _) [Value.ref _, _]) _ _ _); k_dflt (refine' append_K ?k1 ?k2 ?k3 ?_ ?z; (case k1 => k_asm); (case k2 => k_asm); (case k3 => k_upd); (case z => (simp only [List.size_toArray, sizeLine_eq]; omega)); k_whole); intro h' F' N'; (try k_sweep)))

/-- a list of pairs of ints -/
noncomputable def PairAt (d : Int × Int) (o : Obj) : Prop := ∃ t1 t2, o = tupObj [.int d.1 t1, .int d.2 t2]
noncomputable def PairsAt (h : Heap) (vs : List Value) (ds : List (Int × Int)) : Prop := vs.length = ds.length ∧ ∀ (i : Nat) (v : Value), vs[i]? = some v → ∃ (q : Addr) (o : Obj) (d : Int × Int), v = Value.ref q ∧ ds[i]? = some d ∧ h.get? q = some o ∧ PairAt d o
noncomputable abbrev t30 (c : Addr) : Obj := tabObj #[rawInt 32, rawInt 4, .ref c]
noncomputable abbrev t37 (c : Addr) : Obj := tabObj #[rawInt 47, rawInt 4, .ref c]

noncomputable def JD (ds : List (Int × Int)) (v0 : Int) (k0 : Nat) (l sl : Addr) (fx : List (Addr × Obj)) (i : Nat) (m₁ : Str → Option Value) (news₁ : List (Addr × Obj)) : Prop :=
  ∃ v tv zs ns k, (∀ e ∈ [(Str.ofString "value", Value.int v tv), (Str.ofString "slips", .ref sl)], m₁ e.1 = some e.2) ∧ v = doneAll (ds.take i) v0 ∧ v.natAbs ≤ 100000000 + 200 * i ∧ IntsAre zs (List.replicate k 0) ∧ k ≤ k0 + i ∧ i ≤ ds.length ∧ news₁ = (sl, lstObj zs ns) :: fx
theorem done_snoc {ds : List (Int × Int)} {i : Nat} {d : Int × Int} {v : Int} (h : ds[i]? = some d) : doneAll (ds.take (i + 1)) v = doneStep (doneAll (ds.take i) v) d := by
  unfold doneAll
  rw [List.take_add_one, h]
  simp

theorem head1 {h₀ h : Heap} {L : Addr} {x : Addr × Obj} {ys : List (Addr × Obj)} (N : News h₀ L h (x :: ys)) : News h₀ L h [x] :=
  News.sub N fun q hq => by
    rcases List.mem_singleton.mp hq with rfl
    exact .head _
theorem ne_of_obj {h₀ h : Heap} {L a b : Addr} {o1 o2 : Obj} {news : List (Addr × Obj)} (N : News h₀ L h news) (h1 : (a, o1) ∈ news) (h2 : (b, o2) ∈ news) (hne : o1 ≠ o2) : @Ne Nat a b := fun e => by
  have x := (N _ h1).1
  have y := (N _ h2).1
  have e2 : a = b := e
  simp only [e2] at x
  rw [x] at y
  exact hne (Option.some.inj y)
structure Hid (P : Prop) : Prop where
  out : P
theorem ints_snoc0 {zs : List Value} {k : Nat} {x : Int} {t : Tok} (h : IntsAre zs (List.replicate k 0)) (hx : x = 0) : IntsAre (zs ++ [.int x t]) (List.replicate (k + 1) 0) := by
  rw [List.replicate_succ', hx]
  exact h.append (.cons _ _ .nil)
theorem nab_inv {v : Int} {i : Nat} (h : v.natAbs ≤ 100000000 + 200 * i) : (-1 - v).natAbs ≤ 100000000 + 200 * (i + 1) := by
  refine Nat.le_trans (Int.natAbs_sub_le _ _) ?_
  show 1 + v.natAbs ≤ _
  omega
theorem nab_amt {a : Int} (h0 : -100 ≤ a) (h1 : a ≤ 100) : a.natAbs ≤ 100 := by omega
theorem nab_sub {v a : Int} {i : Nat} (h : v.natAbs ≤ 100000000 + 200 * i) (h0 : -100 ≤ a) (h1 : a ≤ 100) : (a - v).natAbs ≤ 100000000 + 200 * (i + 1) := by
  have := nab_amt h0 h1
  refine Nat.le_trans (Int.natAbs_sub_le _ _) ?_
  clear h0 h1
  omega
theorem nab_add {v a : Int} {i : Nat} (h : v.natAbs ≤ 100000000 + 200 * i) (h0 : -100 ≤ a) (h1 : a ≤ 100) : (v + a).natAbs ≤ 100000000 + 200 * (i + 1) := by
  have := nab_amt h0 h1
  refine Nat.le_trans (Int.natAbs_add_le _ _) ?_
  clear h0 h1
  omega
theorem done_leaf {g : Heap} {L I l sl : Addr} {it : Obj} {lo : Obj} {ds : List (Int × Int)} {v0 : Int} {k0 i k : Nat} {fx : List (Addr × Obj)} {s : Shared} {Q : Flow → Shared → Prop} {h' : Heap} {tk : Nat} {m' : Str → Option Value} {news' : List (Addr × Obj)} {v : Int} {tv : Tok} {zs zs0 : List Value} {ns ns0 : Nat}
    (F : Fr g L h' m') (N : News g L h' news') (hI : (I, it) ∈ news') (hl : (l, lo) ∈ news') (hsl : (sl, lstObj zs ns) ∈ news') (hfx : ∀ q ∈ fx, q ∈ news') (off : ∀ q ∈ (sl, lstObj zs0 ns0) :: fx, q.1 ≠ I)
    (h1 : m' (Str.ofString "value") = some (.int v tv)) (h2 : m' (Str.ofString "slips") = some (.ref sl)) (hv : v = doneAll (ds.take (i + 1)) v0) (hvb : v.natAbs ≤ 100000000 + 200 * (i + 1)) (hz : IntsAre zs (List.replicate k 0)) (hk : k ≤ k0 + (i + 1)) (hi : i + 1 ≤ ds.length) :
    TurnEnd g L I it (l, lo) (JD ds v0 k0 l sl fx (i + 1)) s Q .next { s with heap := h', toks := tk } :=
  ⟨h', tk, m', _, rfl, F, News.sub N (by
    intro q hq
    rcases List.mem_cons.mp hq with rfl | hq
    · exact hI
    · rcases List.mem_cons.mp hq with rfl | hq
      · exact hl
      · rcases List.mem_cons.mp hq with rfl | hq
        · exact hsl
        · exact hfx q hq), (fun q hq => by
    rcases List.mem_cons.mp hq with e | h9
    · subst e; exact off (sl, lstObj zs0 ns0) (List.Mem.head _)
    · exact off q (List.Mem.tail _ h9)), v, tv, zs, ns, k, (by simp only [List.forall_mem_cons]; exact ⟨h1, h2, fun _ h => nomatch h⟩), hv, hvb, hz, hk, hi, rfl⟩
set_option maxRecDepth 100000 in
set_option maxHeartbeats 8000000 in
theorem law_done_con {prog : Program} {w : World} {p : Program} {loose : List Str} {mean : ExcName → Option Value} {mg mb : Str → Option Value}
    {dp un : Nat} {gd : Option (List Code)} {env : Env} {outer : List Env} {A₀ : Around} {base h₀ : Heap} {L : Addr} {m : Str → Option Value} {s : Shared}
    {Q E : Value → Shared → Prop} {l sl c7 c0 : Addr} {vs zs : List Value} {nd ns k0 : Nat} {ds : List (Int × Int)} {v0 : Int} {tv : Tok} {oc7 oc0 : Obj}
    (B : Below A₀ base outer h₀) (F : Fr h₀ L s.heap m) (X : (hd.heap_1 w.params).In h₀) (T : Top p loose mean mg mb h₀) (hf : env.frame = some L) (hke : env.scope.kind = .function)
    (hdp : dp ≤ 430) (hun : un ≤ 100) (N : News h₀ L s.heap [(l, lstObj vs nd), (sl, lstObj zs ns), (37, t37 c7), (c7, oc7), (30, t30 c0), (c0, oc0)]) (hT7 : TabIs 47 4 qD2I #[rawInt 47, rawInt 4, .ref c7] [(c7, oc7)]) (hT0 : TabIs 32 4 qI2D #[rawInt 32, rawInt 4, .ref c0] [(c0, oc0)])
    (C30 : CodeHd h₀ 34 30) (C37 : CodeHd h₀ 41 37) (hds : PairsAt s.heap vs ds) (hlen : ds.length ≤ 10) (hok : ∀ d ∈ ds, OkDeed d) (hv0 : v0.natAbs ≤ 100000000) (hz : IntsAre zs (List.replicate k0 0)) (hk0 : k0 ≤ 100) (hlt0 : ∀ q ∈ [(l, lstObj vs nd), (37, t37 c7), (c7, oc7), (30, t30 c0), (c0, oc0)], q.1 < sl)
    (hret : ∀ t zs' ns' k h' tk', Fr h₀ L h' m → News h₀ L h' [(l, lstObj vs nd), (sl, lstObj zs' ns'), (37, t37 c7), (c7, oc7), (30, t30 c0), (c0, oc0)] → IntsAre zs' (List.replicate k 0) → k ≤ k0 + ds.length → Kept [(sl, lstObj zs ns)] s.heap h' → Q (.int (doneAll ds v0) t) { s with heap := h', toks := tk' }) :
    wpAny (model prog w) (at_ dp un gd env outer) (call (.ref 115) [.ref l, .int v0 tv, .ref sl]) Q E s := by
  refine' call_need (need := [(l, lstObj vs nd), (sl, lstObj zs ns), (37, t37 c7), (c7, oc7), (30, t30 c0), (c0, oc0)]) (P := fun v news' => ∃ t zs' ns' k, v = .int (doneAll ds v0) t ∧ (∀ q ∈ [(l, lstObj vs nd), (sl, lstObj zs' ns'), (37, t37 c7), (c7, oc7), (30, t30 c0), (c0, oc0)], q ∈ news') ∧ IntsAre zs' (List.replicate k 0) ∧ k ≤ k0 + ds.length) B F X N T
    (by exact rfl) hf hke (by show dp < recursionLimit; simp only [recursionLimit]; omega) (by k_is) (by k_is) (by exact rfl) (by exact rfl) (by exact rfl) (by exact rfl) (by exact rfl) (by decide) ?hret ?h
  case hret =>
    rintro v h' tk news' ⟨t, zs', ns', k, rfl, hs, hzk, hkk⟩ F' N' hk hfr
    refine hret t zs' ns' k h' tk F' (News.sub N' hs) hzk hkk (kept_part N N' hk fun e he => ?_)
    simp only [List.mem_cons, List.not_mem_nil, or_false] at he
    rcases he with rfl | rfl | rfl | rfl | rfl | rfl
    · exact .inr (hs _ (by simp))
    · exact .inl (by simp)
    · exact .inr (hs _ (by simp))
    · exact .inr (hs _ (by simp))
    · exact .inr (hs _ (by simp))
    · exact .inr (hs _ (by simp))
  intro g L' h₁ tk hkp hlt F' N' B' X' T'
  have stay : h₀.StaysIn g := fun b o e => hkp b o (fun hb => by
    obtain ⟨q, hq, rfl⟩ := List.mem_map.mp hb
    have := (N q hq).2.2; rw [e] at this; cases this) (F.keep b o e)
  replace C30 : CodeHd g 34 30 := C30.keeps stay
  replace C37 : CodeHd g 41 37 := C37.keeps stay
  have hx7 := hT7.fields
  have hx0 := hT0.fields
  have hql : ∀ q o, s.heap.get? q = some o → o.cls = .type "tuple" → (∃ xs k, o.data = .seq xs k) → g.get? q = some o := fun q o h1 h2 h3 => hkp q o (fun hm => by
    obtain ⟨e, he, rfl⟩ := List.mem_map.mp hm
    have h4 := (N e he).1
    rw [h1] at h4
    have h5 := Option.some.inj h4
    obtain ⟨xs, k, h3⟩ := h3
    rw [h5] at h2 h3
    simp only [List.mem_cons, List.not_mem_nil, or_false] at he
    rcases he with rfl | rfl | rfl | rfl | rfl | rfl
    · simp at h2
    · simp at h2
    · simp at h3
    · obtain ⟨fs, h6⟩ := hx7 _ (.head _); rw [h6] at h3; cases h3
    · simp at h3
    · obtain ⟨fs, h6⟩ := hx0 _ (.head _); rw [h6] at h3; cases h3) h1
  k_lt hlt0
  clear hlt
  clear F T B N
  show wpAny _ _ _ _ _ _
  k_fold
  k_steps
  rename News _ _ _ _ => N0
  rename Fr _ _ _ _ => F0
  refine iter_list2 rfl F0 N0 (JD ds v0 k0 l sl [(37, t37 c7), (c7, oc7), (30, t30 c0), (c0, oc0)]) ?h0 ?turn ?done
  case h0 => exact ⟨_, _, zs, ns, k0, by kst_all, rfl, (by simpa using hv0 : v0.natAbs ≤ 100000000 + 200 * 0), hz, Nat.le_refl _, Nat.zero_le _, rfl⟩
  case turn =>
    intro I i v m₁ news₁ it h tk hv hJ0 hic hoff hlI F1 N1
    refine hideG fun Gl kG => ?_
    obtain ⟨v1, tv1, zs1, ns1, k, hm, hw, hvb, hzs, hkk, hi, rfl⟩ := hJ0
    k_lt hlI
    replace F1 := fr_known hm F1
    obtain ⟨q, o, d, rfl, hd, hq, t1, t2, rfl⟩ := hds.2 i v hv
    have hil := (List.getElem?_eq_some_iff.mp hd).1
    have hkd := hok d (List.mem_of_getElem? hd)
    obtain ⟨sign, amount⟩ := d
    dsimp only [OkDeed] at hkd
    obtain ⟨hd1, hd2, ha0, ha1⟩ := hkd
    have hT : IsTup h q #[.int sign t1, .int amount t2] := ⟨_, F1.keep q _ (hql q _ hq rfl ⟨_, _, rfl⟩), rfl, 0, rfl⟩
    have hpw0 : 0 < (2 : Int) ^ amount.toNat := Int.pow_pos (by decide)
    have hzl : zs1.length ≤ 110 := by rw [hzs.length, List.length_replicate]; omega
    replace hoff := Hid.mk hoff
    clear hv
    refine kG ?_
    clear kG Gl
    show wpAny _ _ _ _ _ _
    by_cases s1 : sign = 47
    · subst s1
      k_steps
      rename News _ _ _ _ => N9
      rename Fr _ _ _ _ => F9
      refine int_divmod_con (ps := #[rawInt 32, rawInt 4, .ref c0]) (ps7 := #[rawInt 47, rawInt 4, .ref c7]) (ex := [(c0, oc0)]) (ex7 := [(c7, oc7)]) B' F9 X' T' rfl rfl (by show dp + 1 ≤ 443; omega) (by show un + 3 ≤ 4 * 43; omega)
        (News.sub N9 (by simp only [List.cons_append, List.nil_append, List.forall_mem_cons]; exact ⟨by k_mem, by k_mem, by k_mem, by k_mem, fun _ h => nomatch h⟩)) hT0 hT7 (by simp) C30 C37 trivial (hd1 rfl) (by omega) (by omega) ?_
      intro q' t1' t2' h' tk' ps' ex' F2 N2 hT2 hne2 K2 hq' heq2
      obtain ⟨K2, rfl, rfl⟩ := heq2 (by simp)
      have hqn : @Ne Nat q' sl := fun e => ne_new N9 hq' (sl, lstObj zs1 ns1) (by k_mem) e.symm
      have N3 := News.app (head1 N2) (News.kept N9 K2)
      simp only [List.cons_append, List.nil_append] at N3
      clear N9 F9 N2
      k_steps
      rename News _ _ _ _ => N8
      simp only [List.push_toArray] at N8
      refine done_leaf (k := k + 1) (by assumption) N8 (by k_mem) (by k_mem) (by k_mem) ?_ hoff.out (by with_unfolding_all rfl) (by with_unfolding_all rfl) ?_ ?_ (ints_snoc0 hzs ?_) (by omega) (by omega)
      · simp only [List.forall_mem_cons]
        exact ⟨by k_mem, by k_mem, by k_mem, by k_mem, fun _ h => nomatch h⟩
      · rw [done_snoc hd, ← hw]
        rfl
      · have := natAbs_fdiv_le v1 amount
        omega
      · omega
    by_cases s2 : sign = 34
    · subst s2
      obtain ⟨hp1, hp2⟩ := hd2 rfl
      have hpw1 : (2 : Int) ^ amount.toNat ≤ 8 := by
        have : (2 : Nat) ^ amount.toNat ≤ 2 ^ 3 := Nat.pow_le_pow_right (by decide) (by omega)
        rw [two_pow_nat]
        generalize 2 ^ amount.toNat = z at *
        omega
      k_steps
      rename News _ _ _ _ => N9
      rename Fr _ _ _ _ => F9
      refine int_divmod_con (ps := #[rawInt 32, rawInt 4, .ref c0]) (ps7 := #[rawInt 47, rawInt 4, .ref c7]) (ex := [(c0, oc0)]) (ex7 := [(c7, oc7)]) B' F9 X' T' rfl rfl (by show dp + 1 ≤ 443; omega) (by show un + 3 ≤ 4 * 43; omega)
        (News.sub N9 (by simp only [List.cons_append, List.nil_append, List.forall_mem_cons]; exact ⟨by k_mem, by k_mem, by k_mem, by k_mem, fun _ h => nomatch h⟩)) hT0 hT7 (by simp) C30 C37 trivial (Int.ne_of_gt hpw0) (by omega) (by omega) ?_
      intro q' t1' t2' h' tk' ps' ex' F2 N2 hT2 hne2 K2 hq' heq2
      obtain ⟨K2, rfl, rfl⟩ := heq2 (by simp)
      have hqn : @Ne Nat q' sl := fun e => ne_new N9 hq' (sl, lstObj zs1 ns1) (by k_mem) e.symm
      have N3 := News.app (head1 N2) (News.kept N9 K2)
      simp only [List.cons_append, List.nil_append] at N3
      clear N9 F9 N2
      k_steps
      rename News _ _ _ _ => N8
      simp only [List.push_toArray] at N8
      refine done_leaf (k := k + 1) (by assumption) N8 (by k_mem) (by k_mem) (by k_mem) ?_ hoff.out (by with_unfolding_all rfl) (by with_unfolding_all rfl) ?_ ?_ (ints_snoc0 hzs ?_) (by omega) (by omega)
      · simp only [List.forall_mem_cons]
        exact ⟨by k_mem, by k_mem, by k_mem, by k_mem, fun _ h => nomatch h⟩
      · rw [done_snoc hd, ← hw]
        rfl
      · have := natAbs_fdiv_le v1 (2 ^ amount.toNat)
        omega
      · omega
    have s3 : ([47, 34].any fun x => x == sign) = false := by simp; omega
    clear hd1 hd2
    k_steps
    all_goals (
      rename News _ _ _ _ => N8
      refine done_leaf (by assumption) N8 (by k_mem) (by k_mem) (by k_mem) (fun q hq => by first | exact .tail _ (.tail _ (.tail _ hq)) | exact .tail _ (.tail _ (.tail _ (.tail _ hq)))) hoff.out (by with_unfolding_all rfl) (by with_unfolding_all rfl) ?_ (by first | exact nab_inv hvb | exact nab_sub hvb ha0 ha1 | exact nab_add hvb ha0 ha1 | omega) hzs (by omega) (by omega)
      rw [done_snoc hd, ← hw]
      simp only [doneStep]
      (repeat' split) <;> omega)
  case done =>
    intro m₁ news₁ h tk hJ0 F1 N1
    refine hideG fun Gl kG => ?_
    obtain ⟨v1, tv1, zs1, ns1, k, hm, hw, hvb, hzs, hkk, hi, rfl⟩ := hJ0
    replace F1 := fr_known hm F1
    have hvd := hds.1
    rw [List.take_of_length_le (by omega)] at hw
    refine kG ?_
    clear kG Gl
    show wpAny _ _ _ _ _ _
    k_steps
    subst hw
    exact ⟨_, _, _, _, rfl, by assumption, by assumption, _, zs1, ns1, k, rfl, fun _ h => h, hzs, by omega⟩
end Mine
end SC9
section SC10
open PySem PySem.W PyProof.Rows PySem.Calls PySem.Spec
namespace Mine
theorem fill10 : (hd.heap_1 = hd.heap_1 ∧ PySem.Challenge.rw_rs0186_01 = PySem.Challenge.rw_rs0186_01) := by
  k_fill
  w_top off
  exact ⟨rfl, rfl⟩

/-- a mark at which the walk stands -/
noncomputable def MarkW (P : Prop) : Prop := P
theorem MarkW.mk {P : Prop} (h : MarkW P) : P := h
local macro_rules | `(tactic| walk_at "mine idle") => `(tactic| skip)
local macro_rules | `(tactic| walk_at "last exec While") => `(tactic| (k_here; refine MarkW.mk ?_))
local macro_rules | `(tactic| walk_at "exec While Compare cons nil") => `(tactic| (k_here; refine MarkW.mk ?_))
noncomputable def TupsAre (dvs : List Value) (ps : List (Int × Int)) (tl : List (Addr × Obj)) : Prop :=
  dvs.length = ps.length ∧ ∀ (i : Nat) (v : Value), dvs[i]? = some v → ∃ (q : Addr) (o : Obj) (d : Int × Int), v = Value.ref q ∧ ps[i]? = some d ∧ (q, o) ∈ tl ∧ PairAt d o
noncomputable def JE (ds : List Deed) (dl : Addr) (lp : Addr × Obj) (j : Nat) (m₁ : Str → Option Value) (news₁ : List (Addr × Obj)) : Prop :=
  ∃ sy vs nd dvs ndd tl, (∀ e ∈ [(Str.ofString "symbols", Value.ref sy), (Str.ofString "deeds", .ref dl)], m₁ e.1 = some e.2) ∧ IntsAre vs (symsOf (ds.take j)) ∧ j ≤ ds.length ∧
    TupsAre dvs ((ds.drop j).map readD) tl ∧ (∀ q ∈ (sy, lstObj vs nd) :: tl, q.1 ≠ dl) ∧ lp ∈ (sy, lstObj vs nd) :: tl ∧ news₁ = (dl, lstObj dvs ndd) :: (sy, lstObj vs nd) :: tl
theorem deeds_leaf {g : Heap} {L dl D1 sy' : Addr} {lp sp : Addr × Obj} {ds : List Deed} {j : Nat} {d : Deed} {s : Shared} {Q : Flow → Shared → Prop} {h' : Heap} {tk : Nat} {m' : Str → Option Value} {news' tl : List (Addr × Obj)} {dvs ws : List Value} {ndd nd' : Nat} {t1 t2 : Tok} {x y : Int}
    (F : Fr g L h' m') (N : News g L h' news') (hsy : (sy', lstObj ws nd') ∈ news') (htup : (D1, tupObj [.int x t1, .int y t2]) ∈ news') (hdl : (dl, lstObj (.ref D1 :: dvs) ndd) ∈ news') (htl : ∀ q ∈ sp :: tl, q ∈ news')
    (h1 : m' (Str.ofString "symbols") = some (.ref sy')) (h2 : m' (Str.ofString "deeds") = some (.ref dl)) (hT : TupsAre dvs ((ds.drop (j + 1)).map readD) tl) (hd : ds[j]? = some d) (hxy : (x, y) = readD d)
    (hws : IntsAre ws (symsOf (ds.take j))) (hne : ∀ q ∈ sp :: tl, q.1 ≠ dl) (hl : lp ∈ sp :: tl) (hn1 : @Ne Nat sy' dl) (hn2 : @Ne Nat D1 dl) :
    WhileStep2 g L s (JE ds dl lp) Q (j + 1) .next { s with heap := h', toks := tk } := by
  have hil := (List.getElem?_eq_some_iff.mp hd).1
  have hdrop : ds.drop j = d :: ds.drop (j + 1) := by
    rw [List.drop_eq_getElem_cons hil]
    congr 1
    exact (List.getElem?_eq_some_iff.mp hd).2
  refine ⟨h', tk, m', _, j, rfl, F, News.sub N ?_, Nat.lt_succ_self _, sy', ws, nd', .ref D1 :: dvs, ndd, (D1, tupObj [.int x t1, .int y t2]) :: sp :: tl, by simp only [List.forall_mem_cons]; exact ⟨h1, h2, fun _ h => nomatch h⟩, hws, by omega, ⟨?_, ?_⟩, ?_, ?_, rfl⟩
  · intro q hq
    rcases List.mem_cons.mp hq with e | hq
    · exact e ▸ hdl
    rcases List.mem_cons.mp hq with e | hq
    · exact e ▸ hsy
    rcases List.mem_cons.mp hq with e | hq
    · exact e ▸ htup
    · exact htl q hq
  · rw [hdrop, List.map_cons, List.length_cons, List.length_cons, hT.1]
  · intro i v hv
    rw [hdrop, List.map_cons]
    cases i with
    | zero =>
      cases hv
      exact ⟨D1, _, (x, y), rfl, by rw [hxy]; rfl, .head _, t1, t2, rfl⟩
    | succ i =>
      obtain ⟨q, o, e, rfl, a, b, c⟩ := hT.2 i v hv
      exact ⟨q, o, e, rfl, a, .tail _ (.tail _ b), c⟩
  · intro q hq
    rcases List.mem_cons.mp hq with e | hq
    · exact e ▸ hn1
    rcases List.mem_cons.mp hq with e | hq
    · exact e ▸ hn2
    · exact hne q hq
  · exact .tail _ (.tail _ hl)
theorem opS_len (k : Int) : 1 ≤ (opS k).length ∧ (opS k).length ≤ 2 := by
  unfold opS
  (repeat' split) <;> simp
theorem pos8 (inner : List Int) (k a : Int) (ss : List Int) (h : 7 :: (inner ++ 8 :: (opS k ++ [256 + a])) = ss) (ha : 0 ≤ a) : ∀ st : Int, (inner.length : Int) + 1 ≤ st → st < ss.length → (ss.getD st.toNat 0 = 8 ↔ st = inner.length + 1) := by
  intro st h1 h2
  subst h
  obtain ⟨e, he⟩ : ∃ e : Nat, st = ((inner.length + 1 + e : Nat) : Int) := ⟨(st - inner.length - 1).toNat, by omega⟩
  have he2 : st.toNat = inner.length + e + 1 := by omega
  rw [he2, List.getD_cons_succ, List.getD_eq_getElem?_getD, List.getElem?_append_right (by lia), Nat.add_sub_cancel_left]
  have hol := opS_len k
  simp only [List.length_cons, List.length_append, List.length_nil] at h2
  cases e with
  | zero => simp; omega
  | succ e =>
    have h3 : st ≠ inner.length + 1 := by omega
    simp only [h3, iff_false]
    rw [List.getElem?_cons_succ]
    unfold opS at *
    have : e = 0 ∨ e = 1 ∨ e = 2 := by lia
    rcases this with rfl | rfl | rfl <;> (repeat' split) <;> simp_all <;> lia
theorem read_eq {inner : List Int} {k a st : Int} {r : Str} {ss : List Int} (h : 7 :: (inner ++ 8 :: (opS k ++ [256 + a])) = ss) (h0 : 0 ≤ k) (h1 : k < 6) (h3 : ¬ k = 3) (h5 : ¬ k = 5) (hst : st = (inner.length : Int) + 1)
    {sd : Int} (hs : (sd = -1 ∧ ss.getD (-2 + (ss.length : Int)).toNat 0 = 15) ∨ (sd = 1 ∧ ss.getD (-2 + (ss.length : Int)).toNat 0 ≠ 15)) :
    (ss.getD (st + 1).toNat 0, sd * (ss.getD (-1 + (ss.length : Int)).toNat 0 - 256)) = readD ⟨k, a, r⟩ := by
  subst h
  have e1 : (st + 1).toNat = inner.length + 1 + 1 := by omega
  rw [e1]
  have key : ∀ (i : Nat) (v : Int), (8 :: (opS k ++ [256 + a]))[i]? = some v → (7 :: (inner ++ 8 :: (opS k ++ [256 + a]))).getD (inner.length + i + 1) 0 = v := by
    intro i v hv
    rw [List.getD_cons_succ, List.getD_eq_getElem?_getD, List.getElem?_append_right (by lia), Nat.add_sub_cancel_left, hv]; rfl
  have hk : k = 0 ∨ k = 1 ∨ k = 2 ∨ k = 4 := by lia
  have len : ((7 :: (inner ++ 8 :: (opS k ++ [256 + a]))).length : Int) = inner.length + 3 + (opS k).length := by simp; lia
  rw [len] at hs
  rw [len]
  rcases hk with rfl | rfl | rfl | rfl
  · have a1 := key 1 47 rfl
    have a2 := key 2 (256 + a) rfl
    have l1 : (opS 0).length = 1 := rfl
    rw [l1] at hs ⊢
    rw [show (-2 + ((inner.length : Int) + 3 + ((1 : Nat) : Int))).toNat = inner.length + 1 + 1 by omega, a1] at hs
    rw [show (-1 + ((inner.length : Int) + 3 + ((1 : Nat) : Int))).toNat = inner.length + 2 + 1 by omega, a1, a2]
    rcases hs with ⟨_, h⟩ | ⟨rfl, _⟩
    · cases h
    · simp [readD]; omega
  · have a1 := key 1 47 rfl
    have a2 := key 2 15 rfl
    have a3 := key 3 (256 + a) rfl
    have l1 : (opS 1).length = 2 := rfl
    rw [l1] at hs ⊢
    rw [show (-2 + ((inner.length : Int) + 3 + ((2 : Nat) : Int))).toNat = inner.length + 2 + 1 by lia, a2] at hs
    rw [show (-1 + ((inner.length : Int) + 3 + ((2 : Nat) : Int))).toNat = inner.length + 3 + 1 by lia, a1, a3]
    rcases hs with ⟨rfl, _⟩ | ⟨_, h⟩
    · simp [readD]; omega
    · exact absurd rfl h
  · have a1 := key 1 34 rfl
    have a2 := key 2 (256 + a) rfl
    have l1 : (opS 2).length = 1 := rfl
    rw [l1] at hs ⊢
    rw [show (-2 + ((inner.length : Int) + 3 + ((1 : Nat) : Int))).toNat = inner.length + 1 + 1 by omega, a1] at hs
    rw [show (-1 + ((inner.length : Int) + 3 + ((1 : Nat) : Int))).toNat = inner.length + 2 + 1 by omega, a1, a2]
    rcases hs with ⟨_, h⟩ | ⟨rfl, _⟩
    · cases h
    · simp [readD]; omega
  · have a1 := key 1 14 rfl
    have a2 := key 2 (256 + a) rfl
    have l1 : (opS 4).length = 1 := rfl
    rw [l1] at hs ⊢
    rw [show (-2 + ((inner.length : Int) + 3 + ((1 : Nat) : Int))).toNat = inner.length + 1 + 1 by omega, a1] at hs
    rw [show (-1 + ((inner.length : Int) + 3 + ((1 : Nat) : Int))).toNat = inner.length + 2 + 1 by omega, a1, a2]
    rcases hs with ⟨_, h⟩ | ⟨rfl, _⟩
    · cases h
    · simp [readD]; omega
theorem slice_mid {α : Type} (p : List α) (ss : List α) (q : List α) (n m : Nat) (hn : n = p.length) (hm : m = ss.length) : ((p ++ ss ++ q).drop n).take m = ss := by
  subst hn hm
  simp
theorem tn_lt {a p : Int} (h : p ≤ a) (hn : ¬ a = p) : (a - 1 - p).toNat < (a - p).toNat := by omega
set_option maxRecDepth 100000 in
set_option maxHeartbeats 8000000 in
theorem law_deeds_con {prog : Program} {w : World} {p : Program} {loose : List Str} {mean : ExcName → Option Value} {mg mb : Str → Option Value}
    {dp un : Nat} {gd : Option (List Code)} {env : Env} {outer : List Env} {A₀ : Around} {base h₀ : Heap} {L : Addr} {m : Str → Option Value} {s : Shared}
    {Q E : Value → Shared → Prop} {l : Addr} {vs : List Value} {nd : Nat} {ds : List Deed}
    (B : Below A₀ base outer h₀) (F : Fr h₀ L s.heap m) (X : (hd.heap_1 w.params).In h₀) (T : Top p loose mean mg mb h₀) (hf : env.frame = some L) (hke : env.scope.kind = .function)
    (hdp : dp ≤ 450) (hun : un ≤ 500) (N : News h₀ L s.heap [(l, lstObj vs nd)]) (hss : IntsAre vs (symsOf ds)) (hlen : ds.length ≤ 10) (hk : ∀ d ∈ ds, 0 ≤ d.kind ∧ d.kind < 6 ∧ 0 ≤ d.amount ∧ d.amount < 64) 
    (hret : ∀ q dvs ndd tl h' tk', Fr h₀ L h' m → News h₀ L h' ((q, lstObj dvs ndd) :: tl) → TupsAre dvs (ds.map readD) tl → Kept [] s.heap h' → Q (.ref q) { s with heap := h', toks := tk' }) :
    wpAny (model prog w) (at_ dp un gd env outer) (call (.ref 108) [.ref l]) Q E s := by
  refine' call_need (need := [(l, lstObj vs nd)]) (P := fun v news' => ∃ q dvs ndd tl, v = .ref q ∧ (∀ e ∈ (q, lstObj dvs ndd) :: tl, e ∈ news') ∧ TupsAre dvs (ds.map readD) tl ∧ (l, lstObj vs nd) ∈ news') B F X N T
    (by exact rfl) hf hke (by show dp < recursionLimit; simp only [recursionLimit]; omega) (by k_is) (by k_is) (by exact rfl) (by exact rfl) (by exact rfl) (by exact rfl) (by exact rfl) (by decide) ?hret ?h
  case hret =>
    rintro v h' tk news' ⟨q, dvs, ndd, tl, rfl, hs, hT, hl⟩ F' N' hk hfr
    exact hret q dvs ndd tl h' tk F' (News.sub N' hs) hT (kept_all N N' (by simpa using hl) hk)
  intro g L' h₁ tk hkp hlt F' N' B' X' T'
  clear F T B N
  show wpAny _ _ _ _ _ _
  k_fold
  k_steps
  rename News _ _ _ _ => N0
  rename Fr _ _ _ _ => F0
  rename_i dl _ _ _
  show wpAny _ _ _ _ _ _
  refine While_inv2 (n₀ := ds.length) (JE ds dl (l, lstObj vs nd)) F0 N0 ?h0 ?turn (fun _ _ h => h.elim)
  case h0 =>
    refine ⟨l, vs, nd, [], 0, [], by kst_all, ?_, Nat.le_refl _, ⟨by simp, fun i v h => by simp at h⟩, ?_, .head _, rfl⟩
    · rw [List.take_length]; exact hss
    · simp only [List.forall_mem_cons]
      exact ⟨by k_ne, fun _ h => nomatch h⟩
  case turn =>
    intro j m₁ news₁ h tk F1 N1 hJ0
    refine hideG fun Gl kG => ?_
    obtain ⟨sy, vs, nd, dvs, ndd, tl, hm, hI, hj, hdv, hne, hlp, rfl⟩ := hJ0
    replace F1 := fr_known hm F1
    have hsl := syms_length (ds.take j)
    rw [List.length_take] at hsl
    have hl1 : (symsOf (ds.take j)).length ≤ 60 := by omega
    have hvl : vs.length = (symsOf (ds.take j)).length := hI.length
    have hdvl : dvs.length ≤ 10 := by rw [hdv.1, List.length_map, List.length_drop]; omega
    replace hne := Hid.mk hne
    cases j with
    | zero =>
      have hl0 : (symsOf (ds.take 0)).length = 1 := rfl
      refine kG ?_
      clear kG Gl
      show wpAny _ _ _ _ _ _
      k_steps
      all_goals (try (exfalso; omega))
      refine ⟨_, _, _, _, rfl, by assumption, by assumption, dl, dvs, ndd, tl, rfl, ?_, ?_, ?_⟩
      · intro e he
        rcases List.mem_cons.mp he with e1 | he
        · exact e1 ▸ .head _
        · exact .tail _ (.tail _ he)
      · simpa using hdv
      · exact .tail _ hlp
    | succ j =>
    obtain ⟨d, hd⟩ : ∃ d, ds[j]? = some d := ⟨ds[j], by simp⟩
    have hkd := hk d (List.mem_of_getElem? hd)
    rw [syms_snoc hd] at hI hvl hl1
    obtain ⟨kind, amount, remark⟩ := d
    dsimp only at hI hvl hl1 hkd
    have hw2 := (wrap_length kind amount (symsOf (ds.take j))).2
    have hin := syms_length (ds.take j)
    rw [List.length_take] at hin
    obtain ⟨hk0, hk1, ha0, ha1⟩ := hkd
    by_cases k3 : kind = 3
    · have e : wrapK kind amount (symsOf (ds.take j)) = 31 :: 7 :: (symsOf (ds.take j) ++ [8]) := by unfold wrapK; rw [if_pos k3]
      rw [e] at hI hvl hl1 hw2
      generalize hss : (31 :: 7 :: (symsOf (ds.take j) ++ [8])) = ss at *
      have hs0 : ss.getD (Int.toNat 0) 0 = 31 := by rw [← hss]; rfl
      have hsl2 : ss.length = (symsOf (ds.take j)).length + 3 := by rw [← hss]; simp
      have hcut : (ss.drop 2).take (ss.length - 1 - 2) = symsOf (ds.take j) := by
        have := slice_mid [31, 7] (symsOf (ds.take j)) [8] 2 (ss.length - 1 - 2) rfl (by omega)
        rw [← this, ← hss]; rfl
      clear hw2 hin hsl
      refine kG ?_
      clear kG Gl
      show wpAny _ _ _ _ _ _
      k_steps
      all_goals (try (exfalso; omega))
      rename News _ _ _ _ => N8
      rename Fr _ _ _ _ => F8
      refine kl_insert (its := dvs.toArray) (n := ndd) (l := _ :: dvs) F8 N8 rfl (by simp [kl_ins]; exact rfl) (.tail ?_ (.head ?_)) (by simp [sizeLine_eq]; omega) ?_
      · k_ne
      · exact hne.out
      intro h8 F9 N9
      clear F8 N8
      k_steps
      rename News _ _ _ _ => N9
      rename IntsAre _ _ => I9
      rw [hcut] at I9
      exact deeds_leaf (by assumption) N9 (by k_mem) (by k_mem) (by k_mem) (fun q hq => .tail _ (.tail _ (.tail _ hq))) (by with_unfolding_all rfl) (by with_unfolding_all rfl) hdv hd (by simp [readD, k3]) I9 hne.out hlp (by omega) (by omega)
    by_cases k5 : kind = 5
    · have e : wrapK kind amount (symsOf (ds.take j)) = (256 + amount) :: 15 :: 7 :: (symsOf (ds.take j) ++ [8]) := by unfold wrapK; rw [if_neg k3, if_pos k5]
      rw [e] at hI hvl hl1 hw2
      generalize hss : ((256 + amount) :: 15 :: 7 :: (symsOf (ds.take j) ++ [8])) = ss at *
      have hs0 : ss.getD (Int.toNat 0) 0 = 256 + amount := by rw [← hss]; rfl
      have hsl2 : ss.length = (symsOf (ds.take j)).length + 4 := by rw [← hss]; simp
      have hcut : (ss.drop 3).take (ss.length - 1 - 3) = symsOf (ds.take j) := by
        have := slice_mid [256 + amount, 15, 7] (symsOf (ds.take j)) [8] 3 (ss.length - 1 - 3) rfl (by omega)
        rw [← this, ← hss]; rfl
      clear hw2 hin hsl
      refine kG ?_
      clear kG Gl
      show wpAny _ _ _ _ _ _
      k_steps
      all_goals (try (exfalso; omega))
      rename News _ _ _ _ => N8
      rename Fr _ _ _ _ => F8
      refine isnt_con B' F8 X' T' rfl rfl (by show dp + 1 ≤ 451; omega) (by show un + 3 ≤ 503; omega) ?_
      intro h8 tk8 F9 K9
      have N9 := News.kept N8 K9
      clear F8 N8
      k_steps
      all_goals (try (exfalso; omega))
      rename News _ _ _ _ => N8
      rename Fr _ _ _ _ => F8
      refine kl_insert (its := dvs.toArray) (n := ndd) (l := _ :: dvs) F8 N8 rfl (by simp [kl_ins]; exact rfl) (.tail ?_ (.head ?_)) (by simp [sizeLine_eq]; omega) ?_
      · k_ne
      · exact hne.out
      intro h8 F9 N9
      clear F8 N8
      k_steps
      rename News _ _ _ _ => N9
      rename IntsAre _ _ => I9
      rw [hcut] at I9
      exact deeds_leaf (by assumption) N9 (by k_mem) (by k_mem) (by k_mem) (fun q hq => .tail _ (.tail _ (.tail _ hq))) (by with_unfolding_all rfl) (by with_unfolding_all rfl) hdv hd (by simp only [readD, if_neg k3, if_pos k5]; rw [hs0]; congr 1; omega) I9 hne.out hlp (by omega) (by omega)
    · have hop : opS kind = opS kind := rfl
      have e : wrapK kind amount (symsOf (ds.take j)) = 7 :: (symsOf (ds.take j) ++ 8 :: (opS kind ++ [256 + amount])) := by unfold wrapK; rw [if_neg k3, if_neg k5]
      rw [e] at hI hvl hl1 hw2
      generalize hss : (7 :: (symsOf (ds.take j) ++ 8 :: (opS kind ++ [256 + amount]))) = ss at *
      have hs0 : ss.getD (Int.toNat 0) 0 = 7 := by rw [← hss]; rfl
      refine kG ?_
      clear kG Gl
      show wpAny _ _ _ _ _ _
      k_steps
      all_goals (try (exfalso; omega))
      rename News _ _ _ _ => N8
      rename Fr _ _ _ _ => F8
      refine isnt_con B' F8 X' T' rfl rfl (by show dp + 1 ≤ 451; omega) (by show un + 3 ≤ 503; omega) ?_
      intro h8 tk8 F9 K9
      have N9 := News.kept N8 K9
      clear F8 N8
      k_steps
      all_goals (try (exfalso; omega))
      rename News _ _ _ _ => N8
      rename Fr _ _ _ _ => F8
      show wpAny _ _ _ _ _ _
      have hpos := pos8 (symsOf (ds.take j)) kind amount ss hss (by omega)
      have hslen : ss.length = (symsOf (ds.take j)).length + 3 + (opS kind).length := by rw [← hss]; simp; omega
      have hopl := opS_len kind
      clear hw2 hin hsl
      generalize hpp : ((symsOf (ds.take j)).length : Int) + 1 = pos at *
      refine While_inv2 (n₀ := (ss.length - 1 - pos).toNat) (fun n m₂ news₂ => ∃ st ts, (∀ e ∈ [(Str.ofString "stop", Value.int st ts), (Str.ofString "symbols", .ref sy), (Str.ofString "deeds", .ref dl)], m₂ e.1 = some e.2) ∧ pos ≤ st ∧ st < ss.length ∧ n = (st - pos).toNat ∧ news₂ = (dl, lstObj dvs ndd) :: (sy, lstObj vs nd) :: tl) F8 N8 ?_ ?_ (fun _ _ h => h.elim)
      · exact ⟨_, _, by kst_all, by omega, by omega, rfl, rfl⟩
      intro n m₂ news₂ h9 tk9 F9 N9 hJ0
      refine hideG fun Gl kG => ?_
      obtain ⟨st, ts, hm2, hst1, hst2, rfl, rfl⟩ := hJ0
      clear F8 N8
      replace F9 := fr_known hm2 F9
      have hps := hpos st hst1 hst2
      by_cases hst : st = pos
      · have hv := hps.mpr hst
        have hcut : (ss.drop 1).take (min st.toNat ss.length - 1) = symsOf (ds.take j) := by
          have := slice_mid [7] (symsOf (ds.take j)) (8 :: (opS kind ++ [256 + amount])) 1 (min st.toNat ss.length - 1) rfl (by rw [show st.toNat = (symsOf (ds.take j)).length + 1 by omega, Nat.min_eq_left (by omega)]; rfl)
          rw [← this, ← hss]; rfl
        refine kG ?_
        clear kG Gl
        show wpAny _ _ _ _ _ _
        k_steps
        all_goals (try (exfalso; omega))
        all_goals (
          rename News _ _ _ _ => N8
          rename Fr _ _ _ _ => F8
          refine kl_insert (its := dvs.toArray) (n := ndd) (l := _ :: dvs) F8 N8 rfl (by simp [kl_ins]; exact rfl) (.tail ?_ (.head ?_)) (by simp [sizeLine_eq]; omega) ?_
          · k_ne
          · exact hne.out
          intro h8 F9 N9
          clear F8 N8
          k_steps
          rename News _ _ _ _ => N9
          rename IntsAre _ _ => I9
          rw [hcut] at I9
          exact deeds_leaf (by assumption) N9 (by k_mem) (by k_mem) (by k_mem) (fun q hq => .tail _ (.tail _ (.tail _ hq))) (by with_unfolding_all rfl) (by with_unfolding_all rfl) hdv hd (read_eq hss hk0 hk1 k3 k5 (by omega) (by first | exact .inl ⟨rfl, by assumption⟩ | exact .inr ⟨rfl, by assumption⟩)) I9 hne.out hlp (by omega) (by omega))
      · have hv : ¬ (ss.getD st.toNat 0 = 8) := fun e => hst (hps.mp e)
        refine kG ?_
        clear kG Gl
        show wpAny _ _ _ _ _ _
        k_steps
        all_goals (try (exfalso; omega))
        rename News _ _ _ _ => N7
        rename Fr _ _ _ _ => F7
        exact ⟨_, _, _, _, (st - 1 - pos).toNat, rfl, F7, N7, tn_lt hst1 hst, st - 1, _, by kst_all, by omega, by omega, rfl, rfl⟩
end Mine
end SC10
section SC12
open PySem PySem.W PyProof.Rows PySem.Calls PySem.Spec
namespace Mine
theorem fill12 : (hd.heap_1 = hd.heap_1 ∧ PySem.Challenge.rw_rs0186_01 = PySem.Challenge.rw_rs0186_01) := by
  k_fill
  w_top off
  exact ⟨rfl, rfl⟩
noncomputable def MarkS (P : Prop) : Prop := P
theorem MarkS.mk {P : Prop} (h : MarkS P) : P := h
local macro_rules | `(tactic| walk_at "last exec While") => `(tactic| (k_here; refine MarkS.mk ?_))
local macro_rules | `(tactic| walk_at "exec While Compare cons nil") => `(tactic| (k_here; refine MarkS.mk ?_))
local macro_rules | `(tactic| walk_at "exec While BoolOp And cons nil") => `(tactic| (k_here; refine MarkS.mk ?_))
local macro_rules | `(tactic| walk_at "exec While") => `(tactic| (k_here; refine MarkS.mk ?_))
local macro_rules | `(tactic| walk_at "compareOp NotIn str ref") => `(tactic| (k_here; refine MarkS.mk ?_))
local macro_rules | `(tactic| walk_at "subscriptTail Name Subscript ref str") => `(tactic| (k_here; refine MarkS.mk ?_))
local macro_rules | `(tactic| walk_at "call builtin:list.append") => `(tactic| (k_here; (with_reducible show wpAny _ _ (call (Value.builtin _) [Value.ref _, _]) _ _ _); k_dflt (refine' append_K ?k1 ?k2 ?k3 ?_ ?z; (case k1 => k_asm); (case k2 => k_asm); (case k3 => (rename Hid _ => hidX; exact .head hidX.out)); (case z => (simp only [List.size_toArray, sizeLine_eq]; omega)); k_whole); intro h' F' N'; (try k_sweep)))
noncomputable def JS (tx : Str) (t : Tok) (ss : List Int) (sy : Addr) (n : Nat) (m₁ : Str → Option Value) (news₁ : List (Addr × Obj)) : Prop :=
  ∃ (a j : Nat) (ta : Tok) (vs : List Value) (ns : Nat) (ps : Array Value) (ex : List (Addr × Obj)), (∀ e ∈ [(Str.ofString "at", Value.int a ta), (Str.ofString "symbols", .ref sy), (Str.ofString "text", .str tx t)], m₁ e.1 = some e.2) ∧
    tx.cps.toList.drop a = renderC (ss.drop j) ∧ n + j = ss.length ∧ a ≤ 3 * j ∧ IntsAre vs (ss.take j) ∧ TabIs 47 4 qD2I ps ex ∧ ((∃ v ∈ ss.take j, 256 ≤ v) → ps ≠ #[]) ∧ (∀ q ∈ (37, tabObj ps) :: ex, q.1 ≠ sy) ∧ news₁ = (sy, lstObj vs ns) :: (37, tabObj ps) :: ex
theorem longest_le (D : List (PyData × PyData)) (l : List Nat) : longest D l ≤ 3 := by
  unfold longest
  (repeat' split) <;> lia
theorem longest_has (D : List (PyData × PyData)) (l : List Nat) (n : Nat) (h0 : 0 < n) (h3 : n ≤ 3) (h : longest D l ≤ n) : hasKey D (l.take n) = decide (longest D l = n) := by
  unfold longest at *
  have hn : n = 1 ∨ n = 2 ∨ n = 3 := by lia
  rcases hn with rfl | rfl | rfl <;> (repeat' split at h) <;> simp_all
theorem slice_mk (x : Str) (a n : Nat) : Txt.slice x (some (a : Int)) (some ((a : Int) + (n : Int))) = ⟨((x.cps.toList.drop a).take n).toArray⟩ := by
  have h := slice_cps x a (a + n)
  rw [Nat.add_sub_cancel_left] at h
  rw [← h]
  push_cast
  cases Txt.slice x (some (a : Int)) (some ((a : Int) + (n : Int)))
  simp
theorem sym_leaf {g : Heap} {L sy : Addr} {tx : Str} {t : Tok} {ss : List Int} {nn j : Nat} {s : Shared} {Q : Flow → Shared → Prop} {h' : Heap} {tk : Nat} {m' : Str → Option Value} {news' : List (Addr × Obj)} {az : Int} {a' : Nat} {ta' : Tok} {vs' : List Value} {ns' : Nat} {ps' : Array Value} {ex' : List (Addr × Obj)}
    (F : Fr g L h' m') (N : News g L h' news') (hsy : (sy, lstObj vs' ns') ∈ news') (htb : ∀ q ∈ (37, tabObj ps') :: ex', q ∈ news') (h1 : m' (Str.ofString "at") = some (.int az ta')) (h2 : m' (Str.ofString "symbols") = some (.ref sy)) (h3 : m' (Str.ofString "text") = some (.str tx t))
    (haz : az = (a' : Int)) (hr : tx.cps.toList.drop a' = renderC (ss.drop (j + 1))) (hj : nn + j = ss.length) (hjl : j < ss.length) (ha : a' ≤ 3 * (j + 1)) (hI : IntsAre vs' (ss.take (j + 1))) (hT : TabIs 47 4 qD2I ps' ex') (hps : (∃ v ∈ ss.take (j + 1), 256 ≤ v) → ps' ≠ #[]) (hne : ∀ q ∈ (37, tabObj ps') :: ex', q.1 ≠ sy) :
    WhileStep2 g L s (JS tx t ss sy) Q nn .next { s with heap := h', toks := tk } := by
  refine ⟨h', tk, m', _, nn - 1, rfl, F, News.sub N ?_, by omega, a', j + 1, ta', vs', ns', ps', ex', ?_, hr, by omega, ha, hI, hT, hps, hne, rfl⟩
  · intro q hq
    rcases List.mem_cons.mp hq with e | hq
    · exact e ▸ hsy
    · exact htb q hq
  · simp only [List.forall_mem_cons]
    exact ⟨haz ▸ h1, h2, h3, fun _ h => nomatch h⟩
theorem digit_int : ∀ d : Nat, d < 8 → PySem.intText? ⟨#[48 + d]⟩ = some (d : Int) := by decide +kernel
theorem item_mk {x : Str} {i c : Nat} {cs : List Nat} (h : x.cps.toList.drop i = c :: cs) : Txt.item x (i : Int) = ⟨#[c]⟩ := by
  refine PyProof.Rows.item_meets (by lia) ?_
  have := congrArg (·[0]?) h
  simp only [List.getElem?_drop] at this
  simpa using this
theorem tokC_ne (v : Int) : tokC v ≠ [] := by unfold tokC; (repeat' split) <;> simp
theorem render_nil {ss : List Int} (h : renderC ss = []) : ss = [] := by
  cases ss with
  | nil => rfl
  | cons v r =>
    have : tokC v ++ renderC r = [] := h
    exact absurd (List.append_eq_nil_iff.mp this).1 (tokC_ne v)
theorem cps_length (tx : Str) : tx.cps.toList.length = tx.length := Array.length_toList
theorem drop_facts {tx : Str} {ss : List Int} {a j : Nat} (hr : tx.cps.toList.drop a = renderC (ss.drop j)) (h : a < tx.length) : ∃ v, ss[j]? = some v ∧ ss.drop j = v :: ss.drop (j + 1) ∧ j < ss.length := by
  by_cases hj : j < ss.length
  · exact ⟨ss[j], by simp [hj], List.drop_eq_getElem_cons hj, hj⟩
  · rw [List.drop_of_length_le (l := ss) (by omega)] at hr
    have := congrArg List.length hr
    rw [List.length_drop, cps_length] at this
    simp [renderC] at this
    omega
theorem drop_end {tx : Str} {ss : List Int} {a j : Nat} (hr : tx.cps.toList.drop a = renderC (ss.drop j)) (h : ¬ a < tx.length) : ss.take j = ss := by
  rw [List.drop_of_length_le (by rw [cps_length]; omega)] at hr
  have := render_nil hr.symm
  have h2 := List.take_append_drop j ss
  rw [this, List.append_nil] at h2
  exact h2
theorem good_drop : ∀ {ss : List Int}, goodSyms ss → ∀ j, goodSyms (ss.drop j)
  | [], _, j => by simp [goodSyms]
  | _ :: _, h, 0 => h
  | _ :: _, h, j + 1 => good_drop h.2.2 j
theorem ints_concat {vs : List Value} {xs : List Int} {x : Int} {t : Tok} (h : IntsAre vs xs) : IntsAre (vs.toArray.toList.concat (.int x t)) (xs ++ [x]) := by
  rw [List.concat_eq_append]
  exact h.append (.cons _ _ .nil)
theorem d2i_two {prog : Program} {w : World} {p : Program} {loose : List Str} {mean : ExcName → Option Value} {mg mb : Str → Option Value}
    {dp un : Nat} {gd : Option (List Code)} {env : Env} {outer : List Env} {A₀ : Around} {base h₀ : Heap} {L : Addr} {m : Str → Option Value} {s : Shared}
    {Q E : Value → Shared → Prop} {d : Addr} {x0 x1 : Int} {t0 t1 : Tok} {nd : Nat} {tn : Tok} {ps : Array Value} {ex : List (Addr × Obj)} {sp : Addr × Obj}
    (N : News h₀ L s.heap ((d, lstObj [.int x0 t0, .int x1 t1] nd) :: sp :: (37, tabObj ps) :: ex)) (B : Below A₀ base outer h₀) (F : Fr h₀ L s.heap m) (X : (hd.heap_1 w.params).In h₀) (T : Top p loose mean mg mb h₀) (hf : env.frame = some L) (hke : env.scope.kind = .function)
    (hdp : dp ≤ 500) (hun : un ≤ 1000) (hT : TabIs 47 4 qD2I ps ex) (C37 : CodeHd h₀ 41 37) (h0 : 0 ≤ x0 ∧ x0 < 8) (h1 : 0 ≤ x1 ∧ x1 < 8)
    (hret : ∀ t h' tk' ps' ex', Fr h₀ L h' m → News h₀ L h' ((d, lstObj [.int x0 t0, .int x1 t1] nd) :: (37, tabObj ps') :: ex') → TabIs 47 4 qD2I ps' ex' → ps' ≠ #[] → Kept [(37, tabObj #[])] s.heap h' →
      Q (.int (dval 3 [x0, x1]) t) { s with heap := h', toks := tk' }) :
    wpAny (model prog w) (at_ dp un gd env outer) (call (.ref 42) [.ref d, .int 3 tn]) Q E s := by
  refine digits2int_con (n := 3) (vs := [.int x0 t0, .int x1 t1]) (ds := [x0, x1]) (nd := nd) (ps := ps) (ex := ex) B F X T hf hke hdp hun (News.sub N ?_) hT C37 (.cons _ _ (.cons _ _ .nil)) (by show 2 ≤ 100; lia) (by lia) ?_ (fun t h' tk' ps' ex' F2 N2 hT2 hn2 K2 _ => hret t h' tk' ps' ex' F2 N2 hT2 hn2 K2)
  · intro q hq
    rcases List.mem_cons.mp hq with e | hq
    · exact e ▸ .head _
    · exact .tail _ (.tail _ hq)
  · intro x hx2
    simp only [List.mem_cons, List.not_mem_nil, or_false] at hx2
    rcases hx2 with rfl | rfl
    · exact h0
    · exact h1
noncomputable def JZ (D : List (PyData × PyData)) (tx : Str) (t : Tok) (a : Nat) (ta : Tok) (sy : Addr) (rest : List (Addr × Obj)) (n : Nat) (m₁ : Str → Option Value) (news₁ : List (Addr × Obj)) : Prop :=
  ∃ (tz : Tok), (∀ e ∈ [(Str.ofString "size", Value.int n tz), (Str.ofString "at", Value.int a ta), (Str.ofString "symbols", .ref sy), (Str.ofString "text", .str tx t)], m₁ e.1 = some e.2) ∧ longest D (tx.cps.toList.drop a) ≤ n ∧ n ≤ 3 ∧ news₁ = rest
theorem size_leaf {D : List (PyData × PyData)} {g : Heap} {L sy : Addr} {tx : Str} {t ta tz : Tok} {a n : Nat} {s : Shared} {Q : Flow → Shared → Prop} {h' : Heap} {tk : Nat} {m' : Str → Option Value} {rest : List (Addr × Obj)} {z : Int}
    (F : Fr g L h' m') (N : News g L h' rest) (h0 : m' (Str.ofString "size") = some (.int z tz)) (h1 : m' (Str.ofString "at") = some (.int a ta)) (h2 : m' (Str.ofString "symbols") = some (.ref sy)) (h3 : m' (Str.ofString "text") = some (.str tx t))
    (hz : z = (n : Int) - 1) (hn : 0 < n) (hn3 : n ≤ 3) (hl : longest D (tx.cps.toList.drop a) ≤ n) (hq : ¬ longest D (tx.cps.toList.drop a) = n) :
    WhileStep2 g L s (JZ D tx t a ta sy rest) Q n .next { s with heap := h', toks := tk } := by
  have e : z = ((n - 1 : Nat) : Int) := by omega
  refine ⟨h', tk, m', _, n - 1, rfl, F, N, by omega, tz, ?_, by lia, by omega, rfl⟩
  simp only [List.forall_mem_cons]
  exact ⟨e ▸ h0, h1, h2, h3, fun _ h => nomatch h⟩
theorem take_snoc {ss : List Int} {j : Nat} {v : Int} (h : ss[j]? = some v) : ss.take (j + 1) = ss.take j ++ [v] := by
  rw [List.take_add_one, h]; rfl
theorem old_num {ss : List Int} {j : Nat} {v : Int} (h : ss[j]? = some v) (hv : v < 256) (hh : ∃ x ∈ ss.take (j + 1), 256 ≤ x) : ∃ x ∈ ss.take j, 256 ≤ x := by
  obtain ⟨x, hx, h2⟩ := hh
  rw [take_snoc h] at hx
  rcases List.mem_append.mp hx with hx | hx
  · exact ⟨x, hx, h2⟩
  · rw [List.mem_singleton.mp hx] at h2; omega
theorem ok_num {v : Int} (h : okSym v) (h2 : 256 ≤ v) : 256 ≤ v ∧ v < 320 := by unfold okSym at h; omega
theorem take_len {v : Int} {r : List Int} {n : Nat} {l : List Nat} (h : l = renderC (v :: r)) (hok : okSym v) : (tokC v).length ≤ 2 ∧ 0 < (tokC v).length := by
  unfold tokC
  (repeat' split) <;> simp
set_option maxRecDepth 100000 in
set_option maxHeartbeats 8000000 in
theorem law_symbols_con {prog : Program} {w : World} {p : Program} {loose : List Str} {mean : ExcName → Option Value} {mg mb : Str → Option Value}
    {dp un : Nat} {gd : Option (List Code)} {env : Env} {outer : List Env} {A₀ : Around} {base h₀ : Heap} {L : Addr} {m : Str → Option Value} {s : Shared}
    {Q E : Value → Shared → Prop} {tx : Str} {t : Tok} {ss : List Int}
    (B : Below A₀ base outer h₀) (F : Fr h₀ L s.heap m) (X : (hd.heap_1 w.params).In h₀) (T : Top p loose mean mg mb h₀) (hf : env.frame = some L) (hke : env.scope.kind = .function)
    (hdp : dp ≤ 450) (hun : un ≤ 500) (N : News h₀ L s.heap [(37, tabObj #[])]) (C37 : CodeHd h₀ 41 37) (hlen : tx.length ≤ 400) (hss : tx.cps.toList = renderC ss) (hg : goodSyms ss) (hsl : ss.length ≤ 100)
    (hret : ∀ q vs ns ps ex h' tk', Fr h₀ L h' m → News h₀ L h' ((q, lstObj vs ns) :: (37, tabObj ps) :: ex) → IntsAre vs ss → TabIs 47 4 qD2I ps ex → ((∃ v ∈ ss, 256 ≤ v) → ps ≠ #[]) → Kept [(37, tabObj #[])] s.heap h' → Q (.ref q) { s with heap := h', toks := tk' }) :
    wpAny (model prog w) (at_ dp un gd env outer) (call (.ref 101) [.str tx t]) Q E s := by
  refine' call_need (need := [(37, tabObj #[])]) (P := fun v news' => ∃ q vs ns ps ex, v = .ref q ∧ (∀ e ∈ (q, lstObj vs ns) :: (37, tabObj ps) :: ex, e ∈ news') ∧ IntsAre vs ss ∧ TabIs 47 4 qD2I ps ex ∧ ((∃ v ∈ ss, 256 ≤ v) → ps ≠ #[])) B F X N T
    (by exact rfl) hf hke (by show dp < recursionLimit; simp only [recursionLimit]; omega) (by k_is) (by k_is) (by exact rfl) (by exact rfl) (by exact rfl) (by exact rfl) (by exact rfl) (by decide) ?hret ?h
  case hret =>
    rintro v h' tk news' ⟨q, vs, ns, ps, ex, rfl, hs, hI, hT, hp⟩ F' N' hk hfr
    exact hret q vs ns ps ex h' tk F' (News.sub N' hs) hI hT hp hk
  intro g L' h₁ tk hkp hlt F' N' B' X' T'
  have stay : h₀.StaysIn g := fun b o e => hkp b o (fun hb => by
    obtain ⟨q, hq, rfl⟩ := List.mem_map.mp hb
    have := (N q hq).2.2; rw [e] at this; cases this) (F.keep b o e)
  replace C37 : CodeHd g 41 37 := C37.keeps stay
  k_lt hlt
  clear F T B N
  refine with71 F' X' T' ?_
  intro D hD TD
  show wpAny _ _ _ _ _ _
  k_fold
  k_steps
  rename News _ _ _ _ => N0
  rename Fr _ _ _ _ => F0
  rename_i sy _ _ _ _ _
  show wpAny _ _ _ _ _ _
  refine While_inv2 (n₀ := ss.length) (JS tx t ss sy) F0 N0 ?h0 ?turn (fun _ _ h => h.elim)
  case h0 =>
    refine ⟨0, 0, _, [], 0, #[], [], by kst_all, ?_, by simp, by simp, .nil, .inl ⟨rfl, rfl⟩, by simp, ?_, rfl⟩
    · exact hss
    · simp only [List.forall_mem_cons]
      exact ⟨by k_ne, fun _ h => nomatch h⟩
  case turn =>
    intro n m₁ news₁ h tk F1 N1 hJ0
    refine hideG fun Gl kG => ?_
    obtain ⟨a, j, ta, vs, ns, ps, ex, hm, hr, hnj, haj, hI, hT, hps, hne, rfl⟩ := hJ0
    replace F1 := fr_known hm F1
    have hvl : vs.length = (ss.take j).length := hI.length
    rw [List.length_take] at hvl
    replace hne := Hid.mk hne
    refine kG ?_
    clear kG Gl
    show wpAny _ _ _ _ _ _
    k_steps
    · rename News _ _ _ _ => N8
      rename Fr _ _ _ _ => F8
      show wpAny _ _ _ _ _ _
      refine hideG fun Gl kG => ?_
      obtain ⟨v, hv, hdr, hjl⟩ := drop_facts hr (by omega)
      have hgd := good_drop hg j
      rw [hdr] at hgd hr
      obtain ⟨hok, hnx, -⟩ := hgd
      refine kG ?_
      clear kG Gl
      refine While_inv2 (n₀ := 3) (JZ D tx t a ta sy ((sy, lstObj vs ns) :: (37, tabObj ps) :: ex)) F8 N8 ?_ ?_ (fun _ _ h => h.elim)
      · exact ⟨_, by kst_all, longest_le _ _, Nat.le_refl _, rfl⟩
      intro n m₁ news₁ h tk F1 N1 hJ0
      refine hideG fun Gl kG => ?_
      obtain ⟨tz, hm, hzl, hz3, rfl⟩ := hJ0
      clear F8 N8
      replace F1 := fr_known hm F1
      rcases Nat.eq_zero_or_pos n with rfl | hnp
      · by_cases hv1 : v = 1
        · subst hv1
          have hx : (Txt.item tx (a : Int) == Str.ofString "x") = true := by rw [item_mk (c := 120) (cs := renderC (ss.drop (j + 1))) hr]; decide
          refine kG ?_
          clear kG Gl
          show wpAny _ _ _ _ _ _
          k_steps
          all_goals (try (exfalso; rename (Txt.item _ _ == _) = false => hf2; rw [hx] at hf2; cases hf2))
          rename News _ _ _ _ => N9
          refine sym_leaf (a' := a + 1) (by assumption) N9 (by k_mem) (fun q hq => .tail _ hq) (by with_unfolding_all rfl) (by with_unfolding_all rfl) (by with_unfolding_all rfl) (by omega) ?_ hnj hjl (by omega) ?_ hT (fun h => hps (old_num hv (by omega) h)) hne.out
          · rw [← List.drop_drop, hr]; rfl
          · rw [take_snoc hv]; exact ints_concat hI
        · have hv2 : 256 ≤ v ∧ v < 320 := by
            by_cases h2 : v < 256
            · have := (lex_op hD hok hnx hv1 h2).1
              rw [← hr] at this
              omega
            · exact ok_num hok (Int.not_lt.mp h2)
          have hrn : tx.cps.toList.drop a = (48 + ((v - 256) / 8).toNat) :: (48 + ((v - 256) % 8).toNat) :: renderC (ss.drop (j + 1)) := by rw [hr]; show tokC v ++ _ = _; rw [tok_num hv2]; rfl
          have hrn1 : tx.cps.toList.drop (a + 1) = (48 + ((v - 256) % 8).toNat) :: renderC (ss.drop (j + 1)) := by rw [← List.drop_drop, hrn]; rfl
          have hl1 : (a : Int) + 1 < tx.length := by
            have := congrArg List.length hrn1
            rw [List.length_drop, cps_length] at this
            simp at this
            omega
          generalize hd1 : ((v - 256) / 8).toNat = d1 at *
          generalize hd0 : ((v - 256) % 8).toNat = d0 at *
          have hd18 : d1 < 8 := by omega
          have hd08 : d0 < 8 := by omega
          have hv9 : v = 256 + ((d0 : Int) + 8 * (d1 : Int)) := by omega
          clear hd1 hd0
          have hx : (Txt.item tx (a : Int) == Str.ofString "x") = false := by
            rw [item_mk hrn]
            have : ∀ d : Nat, d < 8 → ((⟨#[48 + d]⟩ : Str) == Str.ofString "x") = false := by decide
            exact this d1 hd18
          have hi1 : PySem.intText? (Txt.item tx (a : Int)) = some (d1 : Int) := by rw [item_mk hrn]; exact digit_int d1 hd18
          have hi0 : PySem.intText? (Txt.item tx ((a : Int) + 1)) = some (d0 : Int) := by
            have := item_mk hrn1
            rw [show ((a : Int) + 1) = ((a + 1 : Nat) : Int) by omega, this]; exact digit_int d0 hd08
          refine kG ?_
          clear kG Gl
          show wpAny _ _ _ _ _ _
          k_steps
          all_goals (try (exfalso; rename (Txt.item _ _ == _) = true => hf2; rw [hx] at hf2; cases hf2))
          rename News _ _ _ _ => N9
          rename Fr _ _ _ _ => F9
          refine d2i_two N9 B' F9 X' T' rfl rfl (by show dp + 1 ≤ 500; omega) (by show un + 3 ≤ 1000; omega) hT C37 (by omega) (by omega) ?_
          intro t2 h2 tk2 ps2 ex2 F2 N2 hT2 hne2 K2
          have hs2 : (sy, lstObj vs ns) ∈ (sy, lstObj vs ns) :: (37, tabObj ps2) :: ex2 := .head _
          have N3 : News g L' h2 ((sy, lstObj vs ns) :: (37, tabObj ps2) :: ex2) := by
            intro q hq
            rcases List.mem_cons.mp hq with e | hq
            · rw [e]
              have h9 := N9 (sy, lstObj vs ns) (.tail _ (.head _))
              refine ⟨K2 _ _ ?_ h9.1, h9.2⟩
              intro hm
              simp only [List.map_cons, List.map_nil, List.mem_singleton] at hm
              exact hne.out (37, tabObj ps) (.head _) hm.symm
            · exact N2 q (.tail _ hq)
          have hne3 : ∀ q ∈ (37, tabObj ps2) :: ex2, q.1 ≠ sy := by
            intro q hq
            rcases List.mem_cons.mp hq with e | hq2
            · rw [e]; exact hne.out (37, tabObj ps) (.head _)
            · obtain ⟨fs, hfs⟩ := hT2.fields q hq2
              refine ne_of_obj N3 (.tail _ hq) (.head _) fun e9 => ?_
              rw [e9] at hfs
              cases hfs
          replace hne3 := Hid.mk hne3
          clear hne
          have hdv : dval 3 [(d0 : Int), (d1 : Int)] = (d0 : Int) + 8 * (d1 : Int) := by simp [dval]
          rw [hdv]
          clear hdv
          clear N9 F9 N2 K2
          k_steps
          rename News _ _ _ _ => N9
          refine sym_leaf (a' := a + 2) (by assumption) N9 (by k_mem) (fun q hq => .tail _ hq) (by with_unfolding_all rfl) (by with_unfolding_all rfl) (by with_unfolding_all rfl) (by omega) ?_ hnj hjl (by omega) ?_ hT2 (fun _ => hne2) hne3.out
          · rw [← List.drop_drop, hrn]; rfl
          · rw [take_snoc hv]
            rw [hv9]
            exact ints_concat hI
      refine kG ?_
      clear kG Gl
      show wpAny _ _ _ _ _ _
      k_steps
      all_goals (try (exfalso; omega))
      rename News _ _ _ _ => N8
      rename Fr _ _ _ _ => F8
      show wpAny _ _ _ _ _ _
      refine notin_strTab (TD.ofFr F8) ?_
      rw [slice_mk]
      have e := longest_has D (tx.cps.toList.drop a) n (by omega) hz3 hzl
      by_cases hq : longest D (tx.cps.toList.drop a) = n
      · have e2 : (!(lookup (.str ⟨((tx.cps.toList.drop a).take n).toArray⟩) D).isSome) = false := by
          show (!hasKey D _) = false
          rw [e]; simp [hq]
        rw [e2]
        have hv12 : v ≠ 1 ∧ v < 256 := by
          constructor
          · rintro rfl
            have := lex_none hD (c := 120) (renderC (ss.drop (j + 1))) (.inl rfl)
            rw [hr] at hq
            have e3 : renderC (1 :: ss.drop (j + 1)) = 120 :: renderC (ss.drop (j + 1)) := rfl
            rw [e3] at hq
            omega
          · refine Int.not_le.mp fun h2 => ?_
            have hv2 : 256 ≤ v ∧ v < 320 := ok_num hok h2
            have := lex_none hD (c := 48 + ((v - 256) / 8).toNat) ((48 + ((v - 256) % 8).toNat) :: renderC (ss.drop (j + 1))) (.inr (by omega))
            rw [hr] at hq
            have e3 : renderC (v :: ss.drop (j + 1)) = (48 + ((v - 256) / 8).toNat) :: (48 + ((v - 256) % 8).toNat) :: renderC (ss.drop (j + 1)) := by show tokC v ++ _ = _; rw [tok_num hv2]; rfl
            rw [e3] at hq
            omega
        obtain ⟨-, hlk, hdp2⟩ := lex_op hD hok hnx hv12.1 hv12.2
        rw [← hr, hq] at hlk hdp2
        show wpAny _ _ _ _ _ _
        k_steps
        rename News _ _ _ _ => N9
        rename Fr _ _ _ _ => F9
        show wpAny _ _ _ _ _ _
        rw [slice_mk]
        refine item_strTab (TD.ofFr F9) hlk ?_
        intro y hy
        obtain ⟨ty, rfl⟩ := hy.int_inv
        k_steps
        rename News _ _ _ _ => N9
        simp only [List.push_toArray] at N9
        refine sym_leaf (a' := a + n) (by assumption) N9 (by k_mem) (fun q hq => .tail _ hq) (by with_unfolding_all rfl) (by with_unfolding_all rfl) (by with_unfolding_all rfl) (by omega) ?_ hnj hjl (by omega) ?_ hT (fun h => hps (old_num hv (by omega) h)) hne.out
        · rw [← List.drop_drop]; exact hdp2
        · rw [take_snoc hv]; exact hI.append (.cons _ _ .nil)
      · have e2 : (!(lookup (.str ⟨((tx.cps.toList.drop a).take n).toArray⟩) D).isSome) = true := by
          show (!hasKey D _) = true
          rw [e]; simp [hq]
        rw [e2]
        show wpAny _ _ _ _ _ _
        k_steps
        rename News _ _ _ _ => N9
        exact size_leaf (by assumption) N9 (by with_unfolding_all rfl) (by with_unfolding_all rfl) (by with_unfolding_all rfl) (by with_unfolding_all rfl) (by omega) hnp hz3 hzl hq
    · have hend := drop_end hr (by omega)
      rw [hend] at hI hps
      exact ⟨_, _, _, _, rfl, by assumption, by assumption, sy, vs, ns, ps, ex, rfl, fun _ h => h, hI, hT, hps⟩
end Mine
end SC12
section SG1
open PySem PySem.W PyProof.Rows PySem.Calls PySem.Spec
open PySem.Sem (wp)
namespace Mine
/-- a stretch of a generator's run: it goes on until it yields or ends -/
noncomputable def SG (M : Model) (A : Around) (c : Code) (t : Sem Fin) (fs : List Frame) (s : Shared) (P : End → Shared → Prop) : Prop :=
  ∀ Γ p, Γ.code = c → Γ.Woken A → ∃ e s', Runs M Γ p t fs s e s' ∧ e.quiet = true ∧ P e s'
section
variable {M : Model} {A : Around} {c : Code} {fs : List Frame} {s : Shared} {P : End → Shared → Prop} {env : Env}
  {KF : Flow → Sem Fin} {HV : Value → Sem Fin} {gf : Bool → Bool} {lf : List Value → List Value}
theorem sg_wrap {α : Type} {m : Sem α} {K : α → Sem Fin} {H : Value → Sem Fin} {gd lv}
    (h : wpAny M (A.over c fs) m (fun a s' => SG M A c (K a) fs s' P) (fun x s' => SG M A c (H x) fs s' P) s) : SG M A c (m.wrap K H gd lv) fs s P := by
  rintro Γ p rfl hΓ
  obtain ⟨e, s', hr, hq⟩ := runs_wrap_of_wp (Φ := fun e s' => e.quiet = true ∧ P e s') K H gd lv m (h (Γ.over fs) p (hΓ.over fs)) (fun a p' s' h' => h' Γ p' rfl hΓ) (fun x p' s' h' => h' Γ p' rfl hΓ)
  exact ⟨e, s', hr, hq⟩
theorem sg_bind_wrap {α β : Type} {m : Sem α} {K : α → Sem β} {K' : β → Sem Fin} {H' : Value → Sem Fin} {gd lv}
    (h : wpAny M (A.over c fs) m (fun a s' => SG M A c ((K a).wrap K' H' gd lv) fs s' P) (fun x s' => SG M A c (H' x) fs s' P) s) : SG M A c ((m >>= K).wrap K' H' gd lv) fs s P := by
  rw [Sem.bind_eq_wrap', Sem.wrap_wrap]; exact sg_wrap h
theorem sg_at {p' : Pos} {k : Unit → Sem Fin} (h : SG M A c (k ()) fs s P) : SG M A c (.at p' k) fs s P :=
  sg_wrap (m := standAt p') (K := k) (H := .raise) (gd := id) (lv := id) (wpAny_standAt h)
theorem sg_point {l : List Value} {k : Unit → Sem Fin} (h : SG M A c (k ()) fs s P) : SG M A c (.point l k) fs s P :=
  sg_wrap (m := point) (K := k) (H := .raise) (gd := id) (lv := fun _ => l) (wpAny_point h)
theorem sg_call {c' : Code} {hd : Option Value} {g : Bool} {l : List Value} {k : Result → Sem Fin} (x : ∀ p, SG M A c' (M.den c') (.ret k hd g l c p [] :: fs) s P) : SG M A c (.call c' hd g l k) fs s P := by
  rintro Γ p rfl hΓ
  obtain ⟨e, s', hr, hq⟩ := x p (Γ.goto c') p rfl (hΓ.goto c')
  exact ⟨e, s', runs_call_seg hr, hq⟩
theorem sg_again {c' : Code} (hq : c'.quiet = true) (x : SG M A c' (M.den c') fs s P) : SG M A c (.pure (.again c')) fs s P := by
  rintro Γ p rfl hΓ
  obtain ⟨e, s', hr, hq'⟩ := x (Γ.goto c') p rfl (hΓ.goto c')
  exact ⟨e, s', Runs.head (c₁ := c') (fun _ _ y => .again hq y) hr, hq'⟩
theorem sg_pop (r : Result) {k : Result → Sem Fin} {hd : Option Value} {g : Bool} {l : List Value} {c₁ : Code} {p₁ : Pos} {kp} (x : SG M A c₁ (k r) fs s P) : SG M A c (leafOf r) (.ret k hd g l c₁ p₁ kp :: fs) s P := by
  rintro Γ p rfl hΓ
  obtain ⟨e, s', hr, hq⟩ := x (Γ.goto c₁) p₁ rfl (hΓ.goto c₁)
  exact ⟨e, s', Runs.pop r hr, hq⟩
theorem sg_end (r : Result) (x : P (.ret r) s) : SG M A c (leafOf r) [] s P := by
  rintro Γ p rfl _
  exact ⟨.ret r, s, Runs.leaf r, rfl, x⟩
theorem sg_yield {v : Value} {g : Bool} {l : List Value} {k : Resume → Sem Fin} (hg : g = false) (hfs : splitAtGen fs = none) (hfg : fs.any Frame.guarded = false) (x : ∀ p, P (.susp v g l k c p fs) s) : SG M A c (.yield v g l k) fs s P := by
  rintro Γ p rfl _
  exact ⟨_, s, Runs.yield' fs hfs, by simp [End.quiet, hg, hfg], x p⟩
theorem sg_execs_nil (h : SG M A c (KF .next) fs s P) : SG M A c ((execs [] env).wrap KF HV gf lf) fs s P := h
theorem sg_execs_cons {st : Stmt} {rest : List Stmt} (h : SG M A c ((exec st env).wrap (fun f => match f with | .next => (execs rest env).wrap KF HV gf lf | f => KF f) HV gf lf) fs s P) :
    SG M A c ((execs (st :: rest) env).wrap KF HV gf lf) fs s P := by rw [execs_cons_wrap]; exact h
/-- a plain statement: it does not yield -/
theorem sg_plain {st : Stmt} (h : wpAny M (A.over c fs) (exec st env) (fun f s' => SG M A c (KF f) fs s' P) (fun x s' => SG M A c (HV x) fs s' P) s) : SG M A c ((exec st env).wrap KF HV gf lf) fs s P := sg_wrap h
theorem sg_If {test : Expr} {body orelse : List Stmt} {pos : Pos}
    (h : wpAny M (A.over c fs) (isTrue test env (eval test env)) (fun b s' => if b = true then SG M A c ((execs body env).wrap KF HV gf lf) fs s' P else SG M A c ((execs orelse env).wrap KF HV gf lf) fs s' P) (fun x s' => SG M A c (HV x) fs s' P) s) :
    SG M A c ((exec (.If test body orelse pos) env).wrap KF HV gf lf) fs s P := by
  show SG M A c (.at pos fun _ => ((isTrue test env (eval test env) >>= fun b => if b then execs body env else execs orelse env)).wrap KF HV gf lf) fs s P
  refine sg_at (sg_bind_wrap (wpAny_mono h (fun b s' hb => ?_) fun _ _ x => x))
  cases b with
  | true => simpa using hb
  | false => simpa using hb
theorem sg_Yield {e : Expr} {ypos pos : Pos} (hfs : splitAtGen fs = none) (hgd : gf false = false) (hfg : fs.any Frame.guarded = false)
    (h : wpAny M (A.over c fs) (eval e env) (fun v s' => ∀ (g : Bool) (l : List Value) (k : Resume → Sem Fin) (p : Pos), g = false →
        (∀ A' s'' P', SG M A' c (KF .next) fs s'' P' → SG M A' c (k (.send .none)) fs s'' P') → P (.susp v g l k c p fs) s')
      (fun x s' => SG M A c (HV x) fs s' P) s) (hco : env.scope.isCoroutine = false := by rfl) (hi : interactive env = false := by rfl) :
    SG M A c ((exec (.Expr (.Yield (some e) ypos) pos) env).wrap KF HV gf lf) fs s P := by
  rw [exec_Expr env _ pos hi rfl]
  show SG M A c (.at pos fun _ => ((eval e env >>= fun v => (standAt ypos >>= fun _ => yieldOut env v)) >>= fun x =>
    dropValue (.Yield (some e) ypos) pos x).wrap KF HV gf lf) fs s P
  have hy : ∀ v, yieldOut env v = yieldValue v := fun v => by simp only [yieldOut, hco, Bool.false_eq_true, if_false]
  simp only [hy]
  refine sg_at ?_
  rw [Sem.bind_eq_wrap', Sem.bind_eq_wrap', Sem.wrap_wrap, Sem.wrap_wrap]
  refine sg_wrap (wpAny_mono h (fun v s' h' => ?_) fun _ _ x => x)
  refine sg_at ?_
  exact sg_yield hgd hfs hfg fun p => h' _ _ _ p hgd fun A' s'' P' hx => hx
end
section
variable {prog : Program} {w : World} {A : Around} {c : Code} {fs : List Frame} {s : Shared} {P : End → Shared → Prop} {env : Env}
  {KF : Flow → Sem Fin} {HV : Value → Sem Fin} {gf : Bool → Bool} {lf : List Value → List Value}
/-- what follows a turn's body -/
noncomputable def turnK (target : Expr) (it : Value) (body : List Stmt) (env : Env) (f : Flow) : Sem Fin := match f with
  | .next | .cont => .pure (.again (.forLoop target it body [] env))
  | .brk => .pure (.done .next)
  | .ret v => .pure (.done (.ret v))
theorem sg_For {target iter : Expr} {body : List Stmt} {pos : Pos}
    (h : wpAny (model prog w) (A.over c fs) (eval iter env) (fun x s₁ => wpAny (model prog w) (A.over c fs) (pyIter x) (fun it s₂ =>
      ∀ (g : Bool) (l : List Value) (k : Result → Sem Fin) (p : Pos), g = gf false → (∀ A' s'' P', SG (model prog w) A' c (KF .next) fs s'' P' → SG (model prog w) A' c (k (.ok .next)) fs s'' P') →
        SG (model prog w) A (.forLoop target it body [] env) ((model prog w).den (.forLoop target it body [] env)) (.ret k none g l c p [] :: fs) s₂ P) noErr s₁) noErr s)
    (hs : ∀ x, foldedSetIterable iter env x = pure x := by intro _; rfl) :
    SG (model prog w) A c ((exec (.For target iter body [] pos) env).wrap KF HV gf lf) fs s P := by
  rw [exec_For]
  refine sg_bind_wrap (wpAny_standAt (sg_bind_wrap (wpAny_mono h (fun x s₁ h₁ => ?_) fun _ _ y => y.elim)))
  refine sg_bind_wrap (wpAny_of_eq (hs x) (sg_bind_wrap (wpAny_standAt (sg_bind_wrap (wpAny_holding (wpAny_mono h₁ (fun it s₂ h₂ => ?_) fun _ _ y => y.elim))))))
  exact sg_call fun p => h₂ _ _ _ p rfl fun A' s'' P' hx => hx
theorem sg_forLoop {target : Expr} {it : Value} {body : List Stmt}
    (h : wpAny (model prog w) (A.over (.forLoop target it body [] env) fs) (pyNext it) (fun r s₁ => match r with
      | none => SG (model prog w) A (.block [] env) (leafOf (.ok .next)) fs s₁ P
      | some v => wpAny (model prog w) (A.over (.forLoop target it body [] env) fs) (letOwnedTupleGo target it v) (fun _ s₂ => wpAny (model prog w) (A.over (.forLoop target it body [] env) fs) (assign target env v) (fun _ s₃ =>
          ∀ HV, SG (model prog w) A (.forLoop target it body [] env) ((execs body env).wrap (turnK target it body env) HV id id) fs s₃ P) noErr s₂) noErr s₁) noErr s) :
    SG (model prog w) A (.forLoop target it body [] env) ((model prog w).den (.forLoop target it body [] env)) fs s P := by
  show SG _ A _ ((forTurn target it body [] env).onRaise (fun x => do noteFrame x env; theTreesLotGoes x)) fs s P
  unfold forTurn
  rw [Sem.onRaise_eq_wrap]
  refine sg_bind_wrap (wpAny_standAt (sg_bind_wrap (wpAny_onRaise (wpAny_mono h (fun r s₁ h₁ => ?_) fun _ _ y => y.elim))))
  cases r with
  | none => exact sg_again rfl h₁
  | some v =>
    refine sg_bind_wrap (wpAny_mono h₁ (fun _ s₂ h₂ => sg_bind_wrap (wpAny_mono h₂ (fun _ s₃ h₃ => ?_) fun _ _ y => y.elim)) fun _ _ y => y.elim)
    rw [Sem.bind_eq_wrap', Sem.wrap_wrap]
    rw [Sem.wrap_congr (execs body env) _ _ (K' := turnK target it body env) (H' := _) (fun f => by cases f <;> rfl) (fun e => rfl)]
    exact h₃ _
theorem sg_func {body : List Stmt} (h : ∀ HV, SG (model prog w) A (.func body env) ((execs body env).wrap (fun f => .pure (.done (.ret (match f with | .ret v => v | _ => .none)))) HV id id) fs s P) :
    SG (model prog w) A (.func body env) ((model prog w).den (.func body env)) fs s P := by
  show SG _ A _ (.point [] fun _ => ((execs body env).onRaise (leaving env)) >>= _) fs s P
  refine sg_point ?_
  rw [Sem.onRaise_eq_wrap, Sem.bind_eq_wrap', Sem.wrap_wrap]
  rw [Sem.wrap_congr (execs body env) _ _ (K' := fun f => .pure (.done (.ret (match f with | .ret v => v | _ => .none)))) (H' := _) (fun f => by cases f <;> rfl) (fun e => rfl)]
  exact h _
end
theorem sg_ind {M : Model} {c : Code} {t : Sem Fin} {fs : List Frame} (J : Nat → Around → Shared → (End → Shared → Prop) → Prop)
    (step : ∀ n, (∀ m A s P, m < n → J m A s P → SG M A c t fs s P) → ∀ A s P, J n A s P → SG M A c t fs s P) (n : Nat) (A : Around) (s : Shared) (P : End → Shared → Prop) (h : J n A s P) : SG M A c t fs s P := by
  induction n using Nat.strongRecOn generalizing A s P with
  | ind n ih => exact step n (fun m A s P hm hJ => ih m hm A s P hJ) A s P h
/-- a generator's state, and what the next waking brings -/
noncomputable def Wake (M : Model) (A : Around) (gs : GenState) (s : Shared) (P : End → Shared → Prop) : Prop :=
  match gs with
  | .fresh c => SG M A c (M.den c) [] s P
  | .suspended k _ c _ fs _ => SG M A c (k (.send .none)) fs s P
  | _ => False
theorem wpAny_resumeG {M : Model} {α : Type} {A : Around} {E : Value → Shared → Prop} {s : Shared} {g : Nat} {gs : GenState} {P : End → Shared → Prop}
    {l : List Value} {k : GenResult → Sem α} {Q : α → Shared → Prop} (hg : s.gens[g]? = some gs) (hgo : Wake M A gs (s.setGen g .running) P)
    (hP : ∀ e s₁, e.quiet = true → P e s₁ → wpAny M A (k e.result) Q E (s₁.setGen g e.genState)) : wpAny M A (.resume g (.send .none) l k) Q E s := by
  intro Γ p hΓ
  rw [Sem.wp_resume]
  cases gs with
  | fresh c =>
    obtain ⟨e₁, s₁, hr, hq, he⟩ := hgo (Γ.wake c p) p rfl (hΓ.wake c p)
    exact ⟨_, _, by unfold Wakes; rw [hg]; exact ⟨e₁, s₁, hr, hq, rfl, rfl⟩, hP e₁ s₁ hq he Γ p hΓ⟩
  | suspended k₀ l₀ c₀ p₀ fs₀ cl =>
    obtain ⟨e₁, s₁, hr, hq, he⟩ := hgo (Γ.wake c₀ p) p₀ rfl (hΓ.wake c₀ p)
    exact ⟨_, _, by unfold Wakes; rw [hg]; exact ⟨e₁, s₁, hr, hq, rfl, rfl⟩, hP e₁ s₁ hq he Γ p hΓ⟩
  | running => exact hgo.elim
  | finished => exact hgo.elim
theorem pyNext_genG {prog : Program} {w : World} {A : Around} {E : Value → Shared → Prop} {s : Shared} {a : Addr} {g : Nat} {gs : GenState} {P : End → Shared → Prop} {Q : Option Value → Shared → Prop} (hh : A.handled = none)
    (hl : s.heap.NoLimit) (hroom : A.depth < recursionLimit) (hg : s.heap.IsGen a g) (hgs : s.gens[g]? = some gs) (hgo : Wake (model prog w) A.in1 gs (s.setGen g .running) P)
    (hR : ∀ r s₁, P (.ret r) s₁ → r = .ok (.ret .none) ∧ ∀ h', (∀ b o, s₁.heap.get? b = some o → h'.get? b = some o) → Q none { s₁.setGen g .finished with heap := h' })
    (hY : ∀ v g0 l k c p fs s₁, P (.susp v g0 l k c p fs) s₁ → (End.susp v g0 l k c p fs).genState.bare = true → Q (some v) (s₁.setGen g (End.susp v g0 l k c p fs).genState)) :
    wpAny (model prog w) A (pyNext (.ref a)) Q E s := by
  unfold pyNext
  refine wpAny_bind (wpAny_attempt (wpAny_callSpecial?_slot (name := Str.ofString "__next__") hg.typeIs slot_gen_next
    (wpAny_call_entry slot_gen_next hg.typeIs entry_gen_next ?_ (args_gen_next _))))
  show wpAny _ A.in1 (Builtin.Generator.genWake (.ref a) (.send .none)) _ _ s
  unfold Builtin.Generator.genWake
  refine wpAny_bind (wpAny_holding (wpAny_genNumber hg (wpAny_bind (wpAny_genState hgs ?_))))
  cases gs with
  | running => exact hgo.elim
  | finished => exact hgo.elim
  | _ =>
    refine wpAny_bind (wpAny_roomToWake hl hroom ?_)
    show wpAny _ A.in1 (.resume g (.send .none) [] _) _ _ s
    refine wpAny_resumeG hgs hgo (fun e s₁ hq hx => ?_)
    cases e with
    | ret r =>
      obtain ⟨rfl, hp⟩ := hR r s₁ hx
      show wpAny _ A.in1 (newExc (.type "StopIteration") [] >>= _) _ _ _
      refine wpAny_bind ?_
      simp only [newExc, newTuple]
      refine wpAny_bind (wpAny_newObj_type ?_ (by size_fits))
      refine wpAny_bind (m := firstArgMember _ _) (wpAny_of_eq (a := Value.none) (by first | rfl | (simp only [firstArgMember]; rfl)) ?_)
      refine wpAny_newObj_type ?_ (by size_fits)
      simp only [raiseNew]
      refine wpAny_bind (wpAny_bind (wpAny_handled ?_))
      first | rw [show A.in1.handled = none from hh] | rw [hh]
      refine wpAny_throw ?_
      refine wpAny_bind (wpAny_isInstance (T := "StopIteration") (b := true) ⟨_, Heap.get?_push_size _ rfl, rfl⟩ isSubtype_stop ?_)
      exact wpAny_pure (hp _ fun b o hb => Heap.get?_push_of_some _ (Heap.get?_push_of_some _ hb))
    | susp v g0 l k c p fs => exact wpAny_pure ⟨v, rfl, wpAny_pure (hY v g0 l k c p fs s₁ hx (End.bare_of_quiet hq))⟩
end Mine
end SG1
section SG2
open PySem PySem.W PyProof.Rows PySem.Calls PySem.Spec
open PySem.Sem (wp)
namespace Mine
section
variable {prog : Program} {w : World} {p : Program} {loose : List Str} {mean : ExcName → Option Value} {mg mb : Str → Option Value} {K : Frag}
  {A A₀ : Around} {base h₀ : Heap} {L : Addr} {m : Str → Option Value} {need : List (Addr × Obj)} {s : Shared} {env : Env} {outer : List Env}
  {Q E : Value → Shared → Prop}
/-- a call of a generator function: nothing runs yet -/
theorem call_gen {name qual : Str} {params : Arguments} {body : List Stmt} {scope : Scope} {dV kV doc pm cdv ct oc : Value} {an od : Option Addr} {osl : Array (Option Value)} {f : Addr} {args : List Value} {binds : List (Str × Value)}
    (F : Fr h₀ L s.heap m) (X : K.In h₀) (T : Top p loose mean mg mb h₀) (hroom : A.depth < recursionLimit)
    (ho : K.lookup f = some ⟨oc, od, .func (fnOf name qual params body scope dV kV doc pm an cdv ct), osl⟩) (hcd : codeIn K cdv qual = true)
    (hbind : bindArgs (fnOf name qual params body scope dV kV doc pm an cdv ct) ⟨args, []⟩ = pure binds) (hloc : (binds.all fun x => decide (scope.names.lookup x.1 = some .local)) = true)
    (hco : scope.isCoroutine = false) (hgen : scope.isGenerator = true) (hk : scope.kind = .function) (hcell : ∀ x ∈ scope.names, x.2 ≠ .cell)
    (h : ∀ C oC a oa h' tk, Fr h₀ L h' m → News h₀ L h' [(a, oa), (C, oC)] → s.heap.get? C = none → s.heap.get? a = none → @Ne Nat a C → L < C → (∀ b o, s.heap.get? b = some o → h'.get? b = some o) →
      (∀ hh : Heap, hh.get? C = some oC → hh.Ns C (fun y => binds.reverse.lookup y)) → (∀ hh : Heap, hh.get? a = some oa → hh.IsGen a s.gens.size) →
      Q (.ref a) { s with heap := h', toks := tk, gens := s.gens.push (.fresh (.func body (envOf qual scope C f cdv))) }) :
    wpAny (model prog w) A (call (.ref f) args) Q E s := by
  refine wpAny_call ?_
  refine codeAny_call_generator (fd := fnOf name qual params body scope dV kV doc pm an cdv ct) (body := body) hroom ((X.keeps F.keep) _ _ ho) rfl hco hgen rfl (codeRec_of (X.keeps F.keep) hcd) ((BindsTo.of_eq hbind) _ _ _ _ ?_)
  refine wpAny_newFunctionEnv hcell (locs hloc) (fun h₁ hns hsb => ⟨(T.nolimit.keeps F.keep).fresh _ hsb, ?_⟩) hk
  have hk₁ : ∀ b o, s.heap.get? b = some o → h₁.get? b = some o := fun b o e => hsb.extBut b o (Nat.ne_of_lt (Heap.lt_size e)) (Heap.get?_push_of_some _ e)
  have hsz : h₁.objs.size = s.heap.objs.size + 1 := by rw [hsb.1, Heap.size_push]
  have hLs := F.ns.lt
  have h0s : ∀ b, s.heap.get? b = none → h₀.get? b = none := fun b e => by
    cases e2 : h₀.get? b with
    | none => rfl
    | some o => rw [F.keep b o e2] at e; cases e
  have hC0 : s.heap.get? s.heap.objs.size = none := by
    cases e2 : s.heap.get? s.heap.objs.size with
    | none => rfl
    | some o => exact absurd (Heap.lt_size e2) (Nat.lt_irrefl _)
  have ha0 : s.heap.get? h₁.objs.size = none := by
    cases e2 : s.heap.get? h₁.objs.size with
    | none => rfl
    | some o => exact absurd (Heap.lt_size e2) (by rw [hsz]; exact Nat.not_lt.mpr (Nat.le_succ _))
  obtain ⟨oC, es, ep, hC, hd, hsk, hnf⟩ := hns
  show Q _ _
  refine h s.heap.objs.size oC h₁.objs.size { cls := .type "generator", data := .fields #[.int s.gens.size 0, .str name (s.toks + binds.length), .str qual (s.toks + binds.length + 1)] } _ _ ⟨F.ns.keeps fun b o e => Heap.get?_push_of_some _ (hk₁ b o e), fun b o e => Heap.get?_push_of_some _ (hk₁ b o (F.keep b o e)), F.above⟩ ?_ hC0 ha0 (by show @Ne Nat _ _; omega) hLs (fun b o e => Heap.get?_push_of_some _ (hk₁ b o e)) (fun hh e => ⟨oC, es, ep, e, hd, hsk, hnf⟩) (fun hh e => ⟨_, _, _, e, rfl, rfl, rfl⟩)
  intro q hq
  rcases List.mem_cons.mp hq with rfl | hq
  · exact ⟨Heap.get?_push_size _ rfl, Nat.ne_of_gt (by show L < h₁.objs.size; rw [hsz]; exact Nat.lt_succ_of_lt hLs), h0s _ ha0⟩
  · rw [List.mem_singleton.mp hq]
    exact ⟨Heap.get?_push_of_some _ hC, Nat.ne_of_gt hLs, h0s _ hC0⟩
/-- the call of a function that makes and drives generators -/
noncomputable def DoneG (g : Heap) (L' : Addr) (s : Shared) (P : Value → List (Addr × Obj) → Array GenState → Prop) (f : Flow) (s' : Shared) : Prop :=
  ∃ h' tk m' news' gs, s' = { s with heap := h', toks := tk, gens := gs } ∧ Fr g L' h' m' ∧ News g L' h' news' ∧ P (match f with | .ret v => v | _ => .none) news' gs
theorem call_need_g {P : Value → List (Addr × Obj) → Array GenState → Prop} {name qual : Str} {params : Arguments} {body : List Stmt} {scope : Scope} {dV kV doc pm cdv ct oc : Value} {an od : Option Addr} {osl : Array (Option Value)} {f : Addr} {args : List Value} {binds : List (Str × Value)}
    (B : Below A₀ base outer h₀) (F : Fr h₀ L s.heap m) (X : K.In h₀) (N : News h₀ L s.heap need) (T : Top p loose mean mg mb h₀) (hA : A.frames = some (env :: outer)) (hf : env.frame = some L) (hke : env.scope.kind = .function)
    (hroom : A.depth < recursionLimit)
    (ho : K.lookup f = some ⟨oc, od, .func (fnOf name qual params body scope dV kV doc pm an cdv ct), osl⟩) (hcd : codeIn K cdv qual = true)
    (hbind : bindArgs (fnOf name qual params body scope dV kV doc pm an cdv ct) ⟨args, []⟩ = pure binds) (hloc : (binds.all fun x => decide (scope.names.lookup x.1 = some .local)) = true)
    (hco : scope.isCoroutine = false) (hgen : scope.isGenerator = false) (hk : scope.kind = .function) (hcell : ∀ x ∈ scope.names, x.2 ≠ .cell)
    (hret : ∀ v h' tk news' gs, P v news' gs → Fr h₀ L h' m → News h₀ L h' news' → Kept need s.heap h' → Fresh need s.heap news' → Q v { s with heap := h', toks := tk, gens := gs })
    (h : ∀ g L' h₁ tk, Kept need s.heap g → (∀ q ∈ need, q.1 < L') → Fr g L' h₁ (fun y => binds.reverse.lookup y) → News g L' h₁ need → Below A base (env :: outer) g → K.In g → Top p loose mean mg mb g →
      wpAny (model prog w) (A.deeper (envOf qual scope L' f cdv)) (execs body (envOf qual scope L' f cdv)) (DoneG g L' s P) noErr { s with heap := h₁, toks := tk }) :
    wpAny (model prog w) A (call (.ref f) args) Q E s := by
  refine wpAny_call ?_
  obtain ⟨FG, BG, st, lv⟩ := groundX (R := fun r s' => match r with | .ok (.ret v) => Q v s' | .ok _ => False | .error e => E e s') B F N hA hf hke
  refine codeAny_call_def (fd := fnOf name qual params body scope dV kV doc pm an cdv ct) (body := body) (binds := binds) hroom ((X.keeps F.keep) _ _ ho) rfl (T.nolimit.keeps F.keep) (codeRec_of (X.keeps F.keep) hcd) rfl (.of_eq hbind) hcell (locs hloc) (fun h₁ hns hk₁ => ?_) hco hgen hk
  refine wpAny_mono (h _ s.heap.objs.size h₁ _ (lend N) (fun q hq => Heap.lt_size (N q hq).1) ⟨hns, fun b o e => hk₁ b o (of_hideAll _ e), Nat.le_of_eq (hideAll_size _ _)⟩
    (fun q hq => ⟨hk₁ _ _ (N q hq).1, Nat.ne_of_lt (Heap.lt_size (N q hq).1), hideAll_none _ (List.mem_map_of_mem hq)⟩) BG (X.keeps st) (T.keeps st)) (fun fl s' hl => ?_) fun _ _ y => y.elim
  obtain ⟨h', tk, m', news', gs, rfl, F', N', hP⟩ := hl
  have tk' := took rfl F' N'
  exact lv _ _ (leaveK_ F' N' fun FF NN => hret _ h' tk news' gs hP FF NN tk'.1 tk'.2)
end
section
variable {prog : Program} {w : World} {A : Around} {s : Shared}
theorem letOwned_gen {elts : List Expr} {x1} {pos : Pos} {a T : Addr} {g : Nat} {Q : Unit → Shared → Prop} {E : Value → Shared → Prop} (hit : s.heap.IsGen a g) (hQ : Q () s) :
    wpAny (model prog w) A (letOwnedTupleGo (.Tuple elts x1 pos) (.ref a) (.ref T)) Q E s := by
  obtain ⟨o, nm, qn, ho, hc, hd, _⟩ := hit
  unfold letOwnedTupleGo
  refine wpAny_bind (wpAny_load ho ?_)
  rw [hc, hd]
  show wpAny _ A (if (["enumerate", "zip", "dict_itemiterator", "dict_reverseitemiterator", "odict_iterator", "itertools.zip_longest", "itertools.pairwise"].contains "generator" &&
    (#[.int g 0, nm, qn] : Array Value)[0]? == some (rawInt T)) = true then _ else _) Q E s
  rw [if_neg (by
    intro h
    rw [show (["enumerate", "zip", "dict_itemiterator", "dict_reverseitemiterator", "odict_iterator", "itertools.zip_longest", "itertools.pairwise"].contains "generator") = false from by decide, Bool.false_and] at h
    cases h)]
  exact wpAny_pure hQ
noncomputable def TurnG (I : Nat → Shared → Prop) (n : Nat) (s : Shared) : Prop := ∃ m, m < n ∧ I m s
theorem forLoopG {R : Result → Shared → Prop} {target : Expr} {it : Value} {body : List Stmt} {env : Env} (I : Nat → Shared → Prop)
    (turn : ∀ n s, I n s → wpAny (model prog w) A (pyNext it) (fun r s₁ => match r with
      | none => R (.ok .next) s₁
      | some v => wpAny (model prog w) A (letOwnedTupleGo target it v) (fun _ s₁' => wpAny (model prog w) A (assign target env v) (fun _ s₂ => wpAny (model prog w) A (execs body env) (fun f s₃ => match f with
          | .next | .cont => TurnG I n s₃
          | .brk => R (.ok .next) s₃
          | .ret v => R (.ok (.ret v)) s₃) noErr s₂) noErr s₁') noErr s₁) noErr s)
    (n : Nat) (h : I n s) : codeAny (model prog w) A (.forLoop target it body [] env) R s := by
  refine codeAny_loop' rfl I (fun n s hI => ?_) n h
  show wpAny _ _ ((forTurn target it body [] env).onRaise (fun x => do noteFrame x env; theTreesLotGoes x)) _ _ s
  refine wpAny_noted ?_
  simp only [forTurn]
  refine wpAny_bind (wpAny_standAt (wpAny_bind (wpAny_onRaise (wpAny_mono (turn n s hI) (fun r s₁ h₁ => ?_) fun _ _ h' => h'.elim))))
  cases r with
  | none => exact wpAny_pure (.inr ⟨rfl, codeAny_block (wpAny_execs_nil h₁)⟩)
  | some v =>
    refine wpAny_bind (wpAny_mono h₁ (fun _ s₁' h₁' => ?_) fun _ _ h' => h'.elim)
    refine wpAny_bind (wpAny_mono h₁' (fun _ s₂ h₂ => wpAny_bind (wpAny_mono h₂ (fun f s₃ h₃ => ?_) fun _ _ h' => h'.elim)) fun _ _ h' => h'.elim)
    cases f with
    | next => exact wpAny_pure (.inl ⟨rfl, h₃⟩)
    | cont => exact wpAny_pure (.inl ⟨rfl, h₃⟩)
    | brk => exact wpAny_pure h₃
    | ret v => exact wpAny_pure h₃
end
end Mine
end SG2
section SG3
open PySem PySem.W PyProof.Rows PySem.Calls PySem.Spec
open PySem.Sem (wp)
namespace Mine
theorem fillG3 : (hd.heap_1 = hd.heap_1 ∧ PySem.Challenge.rw_rs0186_01 = PySem.Challenge.rw_rs0186_01) := by
  k_fill
  w_top off
  exact ⟨rfl, rfl⟩
/-- what the generator yields from place i on -/
noncomputable def gy : Nat → Bool → List Nat → List (Int × Str)
  | i, esc, [] => if esc then [((i : Int) - 1, Str.ofString "\\")] else []
  | i, true, c :: cs => ((i : Int), Str.ofString "\\" ++ ⟨#[c]⟩) :: gy (i + 1) false cs
  | i, false, c :: cs => if (⟨#[c]⟩ : Str) == Str.ofString "\\" then gy (i + 1) true cs else ((i : Int), ⟨#[c]⟩) :: gy (i + 1) false cs
noncomputable def has (own : List (Addr × Obj)) (h : Heap) : Prop := ∀ q ∈ own, h.get? q.1 = some q.2
noncomputable def EndG (own : List (Addr × Obj)) (s : Shared) (e : End) (s' : Shared) : Prop := e = .ret (.ok (.ret .none)) ∧ ∃ h' tk, s' = { s with heap := h', toks := tk } ∧ Kept own s.heap h'
noncomputable def SuspG (own : List (Addr × Obj)) (s : Shared) (y : Int × Str) (R : List (Addr × Obj) → GenState → Prop) (e : End) (s' : Shared) : Prop :=
  ∃ v g l k c p fs, e = .susp v g l k c p fs ∧ ∃ (T : Addr) (t1 t2 : Tok) (h' : Heap) (tk : Nat) (own' : List (Addr × Obj)), s' = { s with heap := h', toks := tk } ∧ v = .ref T ∧ h'.get? T = some (tupObj [.int y.1 t1, .str y.2 t2]) ∧ 
    Kept own s.heap h' ∧ Fresh own s.heap own' ∧ has own' h' ∧ R own' e.genState
noncomputable def GG (M : Model) (hb : Heap) : List (Int × Str) → List (Addr × Obj) → GenState → Prop
  | [] => fun own gs => ∀ A s, A.handled = none → A.depth ≤ 490 → hb.StaysIn s.heap → has own s.heap → Wake M A gs s (EndG own s)
  | y :: ys => fun own gs => ∀ A s, A.handled = none → A.depth ≤ 490 → hb.StaysIn s.heap → has own s.heap → Wake M A gs s (SuspG own s y (GG M hb ys))
noncomputable def PostG (M : Model) (hb : Heap) (ys : List (Int × Str)) (own : List (Addr × Obj)) (s : Shared) : End → Shared → Prop := match ys with
  | [] => EndG own s
  | y :: ys => SuspG own s y (GG M hb ys)
theorem GG.of {M : Model} {hb : Heap} {ys : List (Int × Str)} {own : List (Addr × Obj)} {gs : GenState} (h : ∀ A s, A.handled = none → A.depth ≤ 490 → hb.StaysIn s.heap → has own s.heap → Wake M A gs s (PostG M hb ys own s)) : GG M hb ys own gs := by
  cases ys with
  | nil => exact h
  | cons y ys => exact h
noncomputable def cutH (h : Heap) (C : Addr) : Heap := { h with objs := h.objs.extract 0 C }
theorem cut_arr {α : Type} {a : Array α} {C b : Nat} : (a.extract 0 C)[b]? = if b < C then a[b]? else none := by
  rw [Array.getElem?_extract]
  by_cases h : b < C
  · rw [if_pos h]
    by_cases h2 : b < a.size
    · rw [if_pos (by omega)]; simp
    · rw [if_neg (by omega), Array.getElem?_eq_none (by omega)]
  · rw [if_neg h, if_neg (by omega)]
theorem cut_eq {h : Heap} {C b : Addr} : (cutH h C).get? b = if b < C then h.get? b else none := by
  unfold Heap.get? cutH
  simp only [cut_arr]
  by_cases h : b < C
  · rw [if_pos h, if_pos h]
  · rw [if_neg h, if_neg h]
theorem cut_of {h : Heap} {C b : Addr} {o : Obj} (e : (cutH h C).get? b = some o) : h.get? b = some o ∧ b < C := by
  rw [cut_eq] at e
  split at e
  · rename_i hb; exact ⟨e, hb⟩
  · cases e
theorem cut_get {h : Heap} {C b : Addr} {o : Obj} (e : h.get? b = some o) (hb : b < C) : (cutH h C).get? b = some o := by
  rw [cut_eq, if_pos hb]; exact e
theorem cut_size {h : Heap} {C : Addr} : (cutH h C).objs.size ≤ C := by
  show (h.objs.extract 0 C).size ≤ C
  rw [Array.size_extract]; lia
theorem cut_none {h : Heap} {C b : Addr} (hb : ¬ b < C) : (cutH h C).get? b = none := by rw [cut_eq, if_neg hb]
noncomputable def othersH (h : Heap) (C : Addr) (own : List (Addr × Obj)) : List (Addr × Obj) :=
  (List.range h.objs.size).filterMap fun b => if C < b ∧ b ∉ own.map (·.1) then (h.get? b).map fun o => (b, o) else none
theorem others_mem {h : Heap} {C b : Addr} {o : Obj} {own : List (Addr × Obj)} (hb : C < b) (hn : b ∉ own.map (·.1)) (e : h.get? b = some o) : (b, o) ∈ othersH h C own := by
  unfold othersH
  rw [List.mem_filterMap]
  exact ⟨b, List.mem_range.mpr (Heap.lt_size e), by rw [if_pos ⟨hb, hn⟩, e]; rfl⟩
theorem of_others {h : Heap} {C : Addr} {own : List (Addr × Obj)} {q : Addr × Obj} (hq : q ∈ othersH h C own) : h.get? q.1 = some q.2 ∧ C < q.1 ∧ q.1 ∉ own.map (·.1) := by
  unfold othersH at hq
  obtain ⟨b, _, hb⟩ := List.mem_filterMap.mp hq
  split at hb
  · rename_i hc
    cases e : h.get? b with
    | none => rw [e] at hb; cases hb
    | some o =>
      rw [e] at hb
      have : (b, o) = q := Option.some.inj hb
      subst this
      exact ⟨e, hc.1, hc.2⟩
  · cases hb
theorem others_news {h : Heap} {C : Addr} {own : List (Addr × Obj)} : News (cutH h C) C h (othersH h C own) := fun q hq => by
  obtain ⟨e, h1, _⟩ := of_others hq
  exact ⟨e, Nat.ne_of_gt h1, cut_none (Nat.not_lt.mpr (Nat.le_of_lt h1))⟩
/-- all that was not the generator's own stays -/
theorem kept_cut {h h' : Heap} {C : Addr} {own news : List (Addr × Obj)} {m : Str → Option Value} (hC : C ∈ own.map (·.1)) (F : Fr (cutH h C) C h' m) (N : News (cutH h C) C h' news) (hs : ∀ q ∈ othersH h C own, q ∈ news) : Kept own h h' := by
  intro b o hb e
  rcases Nat.lt_trichotomy b C with h1 | h1 | h1
  · exact F.keep b o (cut_get e h1)
  · exact absurd (h1 ▸ hC) hb
  · exact (N _ (hs _ (others_mem h1 hb e))).1
theorem drawsS {prog : Program} {w : World} {A : Around} (hh : A.handled = none) (it : Addr) (x : Str) (t : Tok) :
    Draws prog w A it [it] x.cps.size (fun i v => ∃ c u, x.cps[i]? = some c ∧ v = .str ⟨#[c]⟩ u) (fun i h => h.IsStrIter it (strIterType x) x t i) := by
  unfold strIterType
  split
  · exact Draws.strAscii hh it x t
  · exact Draws.strWide hh it x t
end Mine
end SG3
section SG4
open PySem PySem.W PyProof.Rows PySem.Calls PySem.Spec
open PySem.Sem (wp)
namespace Mine
theorem fillG4 : (hd.heap_1 = hd.heap_1 ∧ PySem.Challenge.rw_rs0186_01 = PySem.Challenge.rw_rs0186_01) := by
  k_fill
  w_top off
  exact ⟨rfl, rfl⟩
noncomputable def MarkG (P : Prop) : Prop := P
theorem MarkG.mk {P : Prop} (h : MarkG P) : P := h
local macro_rules | `(tactic| walk_at "call type:enumerate") => `(tactic| (k_here; refine MarkG.mk ?_))
theorem has_get {own : List (Addr × Obj)} {h : Heap} {a : Addr} {o : Obj} (H : has own h) (hm : (a, o) ∈ own) : h.get? a = some o := H _ hm
noncomputable abbrev enumO (it : Addr) (i : Int) (old : Value) : Obj := { cls := .type "enumerate", dict := none, data := .fields #[.none, .bool false, .ref it, rawInt i, .none, old], slots := #[] }
noncomputable def JL (M : Model) (hb : Heap) (C e it : Addr) (x : Str) (t : Tok) (n : Nat) (A : Around) (s : Shared) (P : End → Shared → Prop) : Prop :=
  ∃ (own0 : List (Addr × Obj)) (s0 : Shared) (h : Heap) (tk : Nat) (m : Str → Option Value) (i : Nat) (esc : Bool) (pz : Int) (tp : Tok) (old : Value) (oit : Obj), A.handled = none ∧ A.depth ≤ 490 ∧ n + i = x.cps.size ∧ s = { s0 with heap := h, toks := tk } ∧
    C ∈ own0.map (·.1) ∧ (∀ b ∈ [e, it], b ∈ own0.map (·.1) ∨ s0.heap.get? b = none) ∧ Fr (cutH s0.heap C) C h m ∧ News (cutH s0.heap C) C h ((e, enumO it i old) :: (it, oit) :: othersH s0.heap C own0) ∧
    oit.cls = .type (strIterType x) ∧ oit.data = .fields #[.str x t, .int i 0] ∧ (∀ q ∈ [(Str.ofString "escape", Value.bool esc), (Str.ofString "pos", Value.int pz tp), (Str.ofString "addr", Value.str x t)], m q.1 = some q.2) ∧ (esc = true → pz = (i : Int) - 1) ∧
    P = PostG M hb (gy i esc (x.cps.toList.drop i)) own0 s0
theorem loop_leaf {M : Model} {hb : Heap} {C e it : Addr} {x : Str} {t : Tok} {n : Nat} {A : Around} {own0 : List (Addr × Obj)} {s0 : Shared} {h : Heap} {tk : Nat} {m : Str → Option Value} {news : List (Addr × Obj)} {i : Nat} {esc : Bool} {pz : Int} {tp : Tok} {old : Value} {oit : Obj} {P : End → Shared → Prop}
    (F : Fr (cutH s0.heap C) C h m) (N : News (cutH s0.heap C) C h news) (he : (e, enumO it i old) ∈ news) (hit : (it, oit) ∈ news) (hoth : ∀ q ∈ othersH s0.heap C own0, q ∈ news) (hh : A.handled = none) (hdp : A.depth ≤ 490) (hn : n + i = x.cps.size) (hC : C ∈ own0.map (·.1)) (hfr : ∀ b ∈ [e, it], b ∈ own0.map (·.1) ∨ s0.heap.get? b = none)
    (hic : oit.cls = .type (strIterType x)) (hid : oit.data = .fields #[.str x t, .int i 0]) (h1 : m (Str.ofString "escape") = some (.bool esc)) (h2 : m (Str.ofString "pos") = some (.int pz tp)) (h3 : m (Str.ofString "addr") = some (.str x t)) (hpos : esc = true → pz = (i : Int) - 1) (hP : P = PostG M hb (gy i esc (x.cps.toList.drop i)) own0 s0) :
    JL M hb C e it x t n A { s0 with heap := h, toks := tk } P :=
  ⟨own0, s0, h, tk, m, i, esc, pz, tp, old, oit, hh, hdp, hn, rfl, hC, hfr, F, News.sub N (by
    intro q hq
    rcases List.mem_cons.mp hq with rfl | hq
    · exact he
    · rcases List.mem_cons.mp hq with rfl | hq
      · exact hit
      · exact hoth q hq), hic, hid, by simp only [List.forall_mem_cons]; exact ⟨h1, h2, h3, fun _ h => nomatch h⟩, hpos, hP⟩
theorem wake_fr {g h5 : Heap} {C : Addr} {m : Str → Option Value} (F : Fr g C h5 m) : ∃ oC, h5.get? C = some oC ∧ ∀ hh : Heap, hh.get? C = some oC → Fr (cutH hh C) C hh m := by
  obtain ⟨oC, es, ep, hC, hd, hsk, hnf⟩ := F.ns
  exact ⟨oC, hC, fun hh e => ⟨⟨oC, es, ep, e, hd, hsk, hnf⟩, fun b o e => (cut_of e).1, cut_size⟩⟩
theorem others_ne {h : Heap} {C e it : Addr} {own0 : List (Addr × Obj)} (hfr : ∀ b ∈ [e, it], b ∈ own0.map (·.1) ∨ h.get? b = none) : ∀ q ∈ othersH h C own0, q.1 ≠ e ∧ q.1 ≠ it := by
  intro q hq
  obtain ⟨h1, _, h3⟩ := of_others hq
  constructor
  · intro e9
    rcases hfr e (by simp) with h4 | h4
    · exact h3 (e9 ▸ h4)
    · rw [e9, h4] at h1; cases h1
  · intro e9
    rcases hfr it (by simp) with h4 | h4
    · exact h3 (e9 ▸ h4)
    · rw [e9, h4] at h1; cases h1
theorem susp_end {M : Model} {hb : Heap} {C T2 : Addr} {own0 : List (Addr × Obj)} {s0 : Shared} {h5 : Heap} {tk5 : Nat} {m5 : Str → Option Value} {news5 : List (Addr × Obj)} {y1 : Int} {y2 : Str} {ys : List (Int × Str)} {t1 t2 : Tok} {g : Bool} {l : List Value} {k : Resume → Sem Fin} {c : Code} {p : Pos} {fs : List Frame}
    (F5 : Fr (cutH s0.heap C) C h5 m5) (N5 : News (cutH s0.heap C) C h5 news5) (hT : (T2, tupObj [.int y1 t1, .str y2 t2]) ∈ news5) (hoth : ∀ q ∈ othersH s0.heap C own0, q ∈ news5) (hC : C ∈ own0.map (·.1))
    (hcont : ∀ oC, (∀ hh : Heap, hh.get? C = some oC → Fr (cutH hh C) C hh m5) → GG M hb ys [(C, oC)] (End.susp (.ref T2) g l k c p fs).genState) :
    SuspG own0 s0 (y1, y2) (GG M hb ys) (.susp (.ref T2) g l k c p fs) { s0 with heap := h5, toks := tk5 } := by
  obtain ⟨oC, hC5, hfc⟩ := wake_fr F5
  refine ⟨_, _, _, _, _, _, _, rfl, T2, t1, t2, h5, tk5, [(C, oC)], rfl, rfl, (N5 _ hT).1, kept_cut hC F5 N5 hoth, ?_, ?_, hcont oC hfc⟩
  · intro q hq
    rw [List.mem_singleton.mp hq]; exact .inl hC
  · intro q hq
    rw [List.mem_singleton.mp hq]; exact hC5
theorem enum_call {prog : Program} {w : World} {A : Around} {s : Shared} {x : Str} {t : Tok} {Q : Value → Shared → Prop} {E : Value → Shared → Prop}
    (h : ∀ (e it : Addr) (h' : Heap), h'.get? e = some (enumO it 0 .none) → h'.IsStrIter it (strIterType x) x t 0 → @Ne Nat e it → s.heap.get? e = none → s.heap.get? it = none → (∀ C, C < s.heap.objs.size → C < e ∧ C < it) →
      (∀ b o, s.heap.get? b = some o → h'.get? b = some o) → Q (.ref e) { s with heap := h' }) :
    wpAny (model prog w) A (call (.type "enumerate") [.str x t]) (fun xv s₁ => wpAny (model prog w) A (pyIter xv) Q E s₁) E s := by
  refine call_enumerate_str (fun h3 he hit hsz hk3 => wpAny_pyIter_enum he ?_)
  have none_of : ∀ b, s.heap.objs.size ≤ b → s.heap.get? b = none := fun b hb => by
    cases e2 : s.heap.get? b with
    | none => rfl
    | some o => exact absurd (Heap.lt_size e2) (Nat.not_lt.mpr hb)
  exact h _ _ h3 he hit (Nat.succ_ne_self _) (none_of _ (Nat.le_succ _)) (none_of _ (Nat.le_refl _)) (fun C hC => ⟨Nat.lt_succ_of_lt hC, hC⟩) hk3
theorem enum_next {prog : Program} {w : World} {A : Around} {s : Shared} {x : Str} {t : Tok} {e it : Addr} {i : Nat} {old : Value} {elts : List Expr} {x1} {pos : Pos} {Q : Value → Shared → Prop} {Z : Shared → Prop} (hh : A.handled = none)
    (he : s.heap.get? e = some (enumO it i old)) (hst : s.heap.IsStrIter it (strIterType x) x t i) (hi : i < x.cps.size) (hei : @Ne Nat e it)
    (h : ∀ (T : Addr) (ch : Nat) (u t1 : Tok) (h' : Heap) (tk : Nat), x.cps[i]? = some ch → h'.get? T = some (tupObj [.int i t1, .str ⟨#[ch]⟩ u]) → h'.get? e = some (enumO it ((i + 1 : Nat) : Int) (.str ⟨#[ch]⟩ u)) → h'.IsStrIter it (strIterType x) x t (i + 1) → (∀ C, C < s.heap.objs.size → C < T) →
      (∀ b o, b ≠ e → b ≠ it → s.heap.get? b = some o → h'.get? b = some o) → Q (.ref T) { s with heap := h', toks := tk }) :
    wpAny (model prog w) A (pyNext (.ref e)) (fun r s₁ => match r with
      | none => Z s₁
      | some v => wpAny (model prog w) A (letOwnedTupleGo (.Tuple elts x1 pos) (.ref e) v) (fun _ s₂ => Q v s₂) noErr s₁) noErr s := by
  refine wpAny_pyNext_enum_itemD (St := fun i h => h.IsStrIter it (strIterType x) x t i) (drawsS (A := A.in1) hh it x t) he hst hi hei (fun hm => hei (List.mem_singleton.mp hm)) ?_
  rintro xv h4 tk4 ⟨ch, u, hch, rfl⟩ ho hst4 hT hsz4 hk4
  show wpAny _ _ (letOwnedTupleGo _ _ _) _ _ _
  refine wpAny_letOwnedTupleGo_enum ho (fun h5 he5 hs5 => ?_)
  have hel : e < s.heap.objs.size := Heap.lt_size he
  have hil : it < s.heap.objs.size := let ⟨_, y, _⟩ := hst; Heap.lt_size y
  exact h _ ch u tk4 h5 _ hch (hs5.extBut _ _ (Nat.ne_of_gt hel) hT) he5 (hst4.extBut hs5.extBut (Ne.symm hei)) (fun C hC => hC) (fun b o hb1 hb2 e9 => hs5.extBut b o hb1 (hk4 b o hb1 hb2 e9))
theorem enum_done {prog : Program} {w : World} {A : Around} {s : Shared} {x : Str} {t : Tok} {e it : Addr} {i : Nat} {old : Value} {Z : Shared → Prop} {Y : Value → Shared → Prop} (hh : A.handled = none)
    (he : s.heap.get? e = some (enumO it i old)) (hst : s.heap.IsStrIter it (strIterType x) x t i) (hi : i = x.cps.size)
    (h : ∀ (h' : Heap), (∀ b o, b ≠ it → s.heap.get? b = some o → h'.get? b = some o) → Z { s with heap := h' }) :
    wpAny (model prog w) A (pyNext (.ref e)) (fun r s₁ => match r with
      | none => Z s₁
      | some v => Y v s₁) noErr s := by
  subst hi
  exact wpAny_pyNext_enum_endD (St := fun i h => h.IsStrIter it (strIterType x) x t i) (drawsS (A := A.in1) hh it x t) he hst fun h' hx => h h' fun b o hb e => hx b o hb e
theorem wake_news {hh : Heap} {C e it : Addr} {oC oe oit : Obj} (hown : has [(C, oC), (e, oe), (it, oit)] hh) (h1 : C < e) (h2 : C < it) : News (cutH hh C) C hh ((e, oe) :: (it, oit) :: othersH hh C [(C, oC), (e, oe), (it, oit)]) := by
  intro q hq
  rcases List.mem_cons.mp hq with rfl | hq
  · exact ⟨hown (e, oe) (by simp), Nat.ne_of_gt h1, cut_none (Nat.not_lt.mpr (Nat.le_of_lt h1))⟩
  · rcases List.mem_cons.mp hq with rfl | hq
    · exact ⟨hown (it, oit) (by simp), Nat.ne_of_gt h2, cut_none (Nat.not_lt.mpr (Nat.le_of_lt h2))⟩
    · exact others_news q hq
theorem susp_leaf {M : Model} {hb : Heap} {C e it T2 : Addr} {own0 : List (Addr × Obj)} {s0 : Shared} {h5 : Heap} {tk5 : Nat} {m5 : Str → Option Value} {news5 : List (Addr × Obj)} {y1 : Int} {y2 : Str} {ys : List (Int × Str)} {oe oit : Obj} {t1 t2 : Tok} {g : Bool} {l : List Value} {k : Resume → Sem Fin} {c : Code} {p : Pos} {fs : List Frame}
    (F5 : Fr (cutH s0.heap C) C h5 m5) (N5 : News (cutH s0.heap C) C h5 news5) (hT : (T2, tupObj [.int y1 t1, .str y2 t2]) ∈ news5) (he : (e, oe) ∈ news5) (hit : (it, oit) ∈ news5) (hoth : ∀ q ∈ othersH s0.heap C own0, q ∈ news5) (hC : C ∈ own0.map (·.1)) (hfr : ∀ b ∈ [e, it], b ∈ own0.map (·.1) ∨ s0.heap.get? b = none)
    (hcont : ∀ oC, (∀ hh : Heap, hh.get? C = some oC → Fr (cutH hh C) C hh m5) → GG M hb ys [(C, oC), (e, oe), (it, oit)] (End.susp (.ref T2) g l k c p fs).genState) :
    SuspG own0 s0 (y1, y2) (GG M hb ys) (.susp (.ref T2) g l k c p fs) { s0 with heap := h5, toks := tk5 } := by
  obtain ⟨oC, hC5, hfc⟩ := wake_fr F5
  refine ⟨_, _, _, _, _, _, _, rfl, T2, t1, t2, h5, tk5, [(C, oC), (e, oe), (it, oit)], rfl, rfl, (N5 _ hT).1, kept_cut hC F5 N5 hoth, ?_, ?_, hcont oC hfc⟩
  · intro q hq
    simp only [List.mem_cons, List.not_mem_nil, or_false] at hq
    rcases hq with rfl | rfl | rfl
    · exact .inl hC
    · exact hfr e (by simp)
    · exact hfr it (by simp)
  · intro q hq
    simp only [List.mem_cons, List.not_mem_nil, or_false] at hq
    rcases hq with rfl | rfl | rfl
    · exact hC5
    · exact (N5 _ he).1
    · exact (N5 _ hit).1
set_option maxRecDepth 100000 in
set_option maxHeartbeats 8000000 in
theorem iter_con {prog : Program} {w : World} {p : Program} {loose : List Str} {mean : ExcName → Option Value} {mg mb : Str → Option Value} {A : Around} {h₀ : Heap} {L : Addr} {m : Str → Option Value} {s : Shared}
    {Q E : Value → Shared → Prop} {x : Str} {t : Tok} (F : Fr h₀ L s.heap m) (X : (hd.heap_1 w.params).In h₀) (T : Top p loose mean mg mb h₀) (hroom : A.depth < recursionLimit) (hx : x.length ≤ 400)
    (hret : ∀ C oC a oa h' tk gs, Fr h₀ L h' m → News h₀ L h' [(a, oa), (C, oC)] → s.heap.get? C = none → s.heap.get? a = none → @Ne Nat a C → (∀ b o, s.heap.get? b = some o → h'.get? b = some o) → (∀ hh : Heap, hh.get? a = some oa → hh.IsGen a s.gens.size) →
      gs.bare = true → GG (model prog w) h₀ (gy 0 false x.cps.toList) [(C, oC)] gs → Q (.ref a) { s with heap := h', toks := tk, gens := s.gens.push gs }) :
    wpAny (model prog w) A (call (.ref 63) [.str x t]) Q E s := by
  refine' call_gen F X T hroom (by k_is) (by k_is) (by exact rfl) (by exact rfl) (by exact rfl) (by exact rfl) (by exact rfl) (by decide) ?_
  intro C oC a oa h' tk F' N' hC0 ha0 hne hLC hkp hns hgen
  refine hret C oC a oa h' tk _ F' N' hC0 ha0 hne hkp hgen rfl (GG.of ?_)
  rintro ⟨hA, dA, fA, gA, uA⟩ s₁ hh hdp hst hown
  replace hh : hA = none := hh
  subst hh
  show SG _ _ _ _ _ _ _
  refine sg_func fun HV => ?_
  have hC1 := has_get hown (List.Mem.head _)
  have F1 : Fr (cutH s₁.heap C) C s₁.heap _ := ⟨hns _ hC1, fun b o e => (cut_of e).1, cut_size⟩
  have N1 : News (cutH s₁.heap C) C s₁.heap (othersH s₁.heap C [(C, oC)]) := others_news
  have st : h₀.StaysIn (cutH s₁.heap C) := fun b o e => cut_get (hst b o e) (Nat.lt_of_lt_of_le (Heap.lt_size e) (Nat.le_trans F.above (Nat.le_of_lt hLC)))
  have T1 := T.keeps st
  have X1 := X.keeps st
  clear F N' F' T X
  refine sg_execs_cons (sg_plain ?_)
  k_fold
  k_steps
  show SG _ _ _ (Sem.wrap _ _ _ _ _) _ _ _
  refine sg_execs_cons (sg_plain ?_)
  k_steps
  show SG _ _ _ (Sem.wrap _ _ _ _ _) _ _ _
  refine sg_execs_cons (sg_For ?_)
  k_steps
  rename News _ _ _ _ => N2
  rename Fr _ _ _ _ => F2
  show wpAny _ _ _ _ _ _
  refine enum_call (fun e it h3 he hit hei he0 hi0 hlt hk3 => ?_)
  intro g l k p hg hk
  subst hg
  obtain ⟨hCe, hCi⟩ := hlt C F2.ns.lt
  obtain ⟨oit, hio, hic, hid⟩ := hit
  refine sg_ind (JL (model prog w) h₀ C e it x t) ?step x.cps.size _ _ _ ?init
  case init =>
    have F3 : Fr (cutH s₁.heap C) C h3 _ := ⟨F2.ns.keeps hk3, fun b o e => hk3 b o (F2.keep b o e), F2.above⟩
    have K2 : Kept [(C, oC)] s₁.heap _ := kept_cut (by simp) F2 N2 (fun q hq => hq)
    refine ⟨[(C, oC)], s₁, h3, _, _, 0, false, 0, _, .none, oit, rfl, hdp, rfl, rfl, by simp, ?_, F3, ?_, hic, hid, by kst_all, (fun h => nomatch h), rfl⟩
    · intro b hb
      refine .inr ?_
      cases e9 : s₁.heap.get? b with
      | none => rfl
      | some o =>
        simp only [List.mem_cons, List.not_mem_nil, or_false] at hb
        rcases hb with rfl | rfl
        · have := K2 _ o (by simp; exact Nat.ne_of_gt hCe) e9
          rw [he0] at this; cases this
        · have := K2 _ o (by simp; exact Nat.ne_of_gt hCi) e9
          rw [hi0] at this; cases this
    · intro q hq
      rcases List.mem_cons.mp hq with rfl | hq
      · exact ⟨he, Nat.ne_of_gt hCe, cut_none (Nat.not_lt.mpr (Nat.le_of_lt hCe))⟩
      · rcases List.mem_cons.mp hq with rfl | hq
        · exact ⟨hio, Nat.ne_of_gt hCi, cut_none (Nat.not_lt.mpr (Nat.le_of_lt hCi))⟩
        · exact ⟨hk3 _ _ (N2 q hq).1, (N2 q hq).2⟩
  case step =>
    clear F2 N2
    rintro n ih ⟨hA, dA, fA, gA, uA⟩ s P ⟨own0, s0, h, tk, m, i, esc, pz, tp, old, oit, hh, hdp, hni, rfl, hCm, hfr, F3, N3, hic, hid, hm, hpos, rfl⟩
    replace hh : hA = none := hh
    subst hh
    replace F3 := fr_known hm F3
    refine sg_forLoop ?_
    by_cases hi : i < x.cps.size
    · refine enum_next rfl (N3 _ (.head _)).1 ⟨oit, (N3 _ (.tail _ (.head _))).1, hic, hid⟩ hi hei ?_
      intro T ch u t1 h4 tk4 hch hT he4 hst4 hTlt hk4
      obtain ⟨oit4, hio4, hic4, hid4⟩ := hst4
      have hCT : C < T := hTlt C F3.ns.lt
      have hne2 := others_ne (C := C) hfr
      have F4 : Fr (cutH s0.heap C) C h4 _ := ⟨F3.ns.at' fun o e => hk4 _ o (Nat.ne_of_lt hCe) (Nat.ne_of_lt hCi) e, fun b o e9 => hk4 b o (Nat.ne_of_lt (Nat.lt_trans (cut_of e9).2 hCe)) (Nat.ne_of_lt (Nat.lt_trans (cut_of e9).2 hCi)) (F3.keep b o e9), F3.above⟩
      have N4 : News (cutH s0.heap C) C h4 ((T, tupObj [.int i t1, .str ⟨#[ch]⟩ u]) :: (e, enumO it ((i + 1 : Nat) : Int) (.str ⟨#[ch]⟩ u)) :: (it, oit4) :: othersH s0.heap C own0) := by
        intro q hq
        rcases List.mem_cons.mp hq with rfl | hq
        · exact ⟨hT, Nat.ne_of_gt hCT, cut_none (Nat.not_lt.mpr (Nat.le_of_lt hCT))⟩
        rcases List.mem_cons.mp hq with rfl | hq
        · exact ⟨he4, Nat.ne_of_gt hCe, cut_none (Nat.not_lt.mpr (Nat.le_of_lt hCe))⟩
        rcases List.mem_cons.mp hq with rfl | hq
        · exact ⟨hio4, Nat.ne_of_gt hCi, cut_none (Nat.not_lt.mpr (Nat.le_of_lt hCi))⟩
        · exact ⟨hk4 _ _ (hne2 q hq).1 (hne2 q hq).2 (N3 q (.tail _ (.tail _ hq))).1, (N3 q (.tail _ (.tail _ hq))).2⟩
      have hTp : IsTup h4 T #[.int i t1, .str ⟨#[ch]⟩ u] := ⟨_, hT, rfl, 0, rfl⟩
      clear F3 N3 hT he4 hio4
      show wpAny _ _ (assign _ _ _) _ _ _
      k_steps
      refine sg_execs_cons (sg_If ?_)
      have hdrop : x.cps.toList.drop i = ch :: x.cps.toList.drop (i + 1) := by
        have h9 : x.cps.toList[i]? = some ch := by rw [Array.getElem?_toList]; exact hch
        have h8 := (List.getElem?_eq_some_iff.mp h9)
        rw [List.drop_eq_getElem_cons h8.1, h8.2]
      cases esc with
      | true =>
        k_steps
        refine sg_execs_cons (sg_Yield rfl rfl rfl ?_)
        k_steps
        rename ∀ _ _ _, SG _ _ _ _ _ _ _ → SG _ _ _ _ _ _ _ => hc2
        rename News _ _ _ _ => N7
        rename Fr _ _ _ _ => F7
        rw [hdrop]
        refine susp_leaf F7 N7 (by k_mem) (by k_mem) (by k_mem) ?_ hCm hfr ?_
        · first | exact fun q hq => hq | exact fun q hq => .tail _ hq | exact fun q hq => .tail _ (.tail _ hq) | exact fun q hq => .tail _ (.tail _ (.tail _ hq)) | exact fun q hq => .tail _ (.tail _ (.tail _ (.tail _ hq))) | exact fun q hq => .tail _ (.tail _ (.tail _ (.tail _ (.tail _ hq)))) | exact fun q hq => .tail _ (.tail _ (.tail _ (.tail _ (.tail _ (.tail _ hq)))))
        intro oC hF
        refine GG.of ?_
        rintro ⟨hA2, dA2, fA2, gA2, uA2⟩ s2 hh2 hdp2 hst2 hown2
        replace hh2 : hA2 = none := hh2
        subst hh2
        have F8 := hF _ (hown2 (C, oC) (.head _))
        have N8 := wake_news hown2 hCe hCi
        clear F7 N7
        show SG _ _ _ _ _ _ _
        refine hc2 _ _ _ ?_
        show SG _ _ _ (Sem.wrap _ _ _ _ _) _ _ _
        refine sg_execs_cons (sg_plain ?_)
        k_steps
        show SG _ _ _ (.pure (.again _)) _ _ _
        rename News _ _ _ _ => N9
        refine sg_again rfl (ih (n - 1) _ _ _ (by omega) ?_)
        exact loop_leaf (s0 := s2) (own0 := [(C, oC), (e, enumO it ((i + 1 : Nat) : Int) (.str ⟨#[ch]⟩ u)), (it, oit4)]) (i := i + 1) (esc := false) (by assumption) N9 (by k_mem) (by k_mem) (fun q hq => .tail _ (.tail _ hq)) rfl hdp2 (by omega) (by simp) (by simp) hic4 hid4 (by with_unfolding_all rfl) (by with_unfolding_all rfl) (by with_unfolding_all rfl) (fun h => nomatch h) rfl
      | false =>
        k_steps
        refine sg_execs_cons (sg_If ?_)
        k_steps
        · refine sg_execs_cons (sg_plain ?_)
          k_steps
          show SG _ _ _ (.pure (.again _)) _ _ _
          rename News _ _ _ _ => N9
          refine sg_again rfl (ih (n - 1) _ _ _ (by omega) ?_)
          refine loop_leaf (s0 := s0) (own0 := own0) (i := i + 1) (esc := true) (by assumption) N9 (by k_mem) (by k_mem) ?_ rfl hdp (by omega) hCm hfr hic4 hid4 (by with_unfolding_all rfl) (by with_unfolding_all rfl) (by with_unfolding_all rfl) (fun _ => by omega) ?_
          · first | exact fun q hq => hq | exact fun q hq => .tail _ hq | exact fun q hq => .tail _ (.tail _ hq) | exact fun q hq => .tail _ (.tail _ (.tail _ hq)) | exact fun q hq => .tail _ (.tail _ (.tail _ (.tail _ hq))) | exact fun q hq => .tail _ (.tail _ (.tail _ (.tail _ (.tail _ hq)))) | exact fun q hq => .tail _ (.tail _ (.tail _ (.tail _ (.tail _ (.tail _ hq)))))
          · rw [hdrop]
            show PostG _ _ (if _ then _ else _) _ _ = _
            rw [if_pos (by assumption)]
        · refine sg_execs_cons (sg_Yield rfl rfl rfl ?_)
          k_steps
          rename ∀ _ _ _, SG _ _ _ _ _ _ _ → SG _ _ _ _ _ _ _ => hc2
          rename News _ _ _ _ => N7
          rename Fr _ _ _ _ => F7
          rw [hdrop]
          show PostG _ _ (if _ then _ else _) _ _ _ _
          rw [if_neg (by rename (_ == _) = false => hf9; rw [hf9]; exact Bool.false_ne_true)]
          refine susp_leaf F7 N7 (by k_mem) (by k_mem) (by k_mem) ?_ hCm hfr ?_
          · first | exact fun q hq => hq | exact fun q hq => .tail _ hq | exact fun q hq => .tail _ (.tail _ hq) | exact fun q hq => .tail _ (.tail _ (.tail _ hq)) | exact fun q hq => .tail _ (.tail _ (.tail _ (.tail _ hq))) | exact fun q hq => .tail _ (.tail _ (.tail _ (.tail _ (.tail _ hq)))) | exact fun q hq => .tail _ (.tail _ (.tail _ (.tail _ (.tail _ (.tail _ hq)))))
          intro oC hF
          refine GG.of ?_
          rintro ⟨hA2, dA2, fA2, gA2, uA2⟩ s2 hh2 hdp2 hst2 hown2
          replace hh2 : hA2 = none := hh2
          subst hh2
          have F8 := hF _ (hown2 (C, oC) (.head _))
          have N8 := wake_news hown2 hCe hCi
          clear F7 N7
          show SG _ _ _ _ _ _ _
          refine hc2 _ _ _ ?_
          show SG _ _ _ (.pure (.again _)) _ _ _
          refine sg_again rfl (ih (n - 1) _ _ _ (by omega) ?_)
          exact loop_leaf (s0 := s2) (h := s2.heap) (tk := s2.toks) (own0 := [(C, oC), (e, enumO it ((i + 1 : Nat) : Int) (.str ⟨#[ch]⟩ u)), (it, oit4)]) (i := i + 1) (esc := false) F8 N8 (by k_mem) (by k_mem) (fun q hq => .tail _ (.tail _ hq)) rfl hdp2 (by omega) (by simp) (by simp) hic4 hid4 (by with_unfolding_all rfl) (by with_unfolding_all rfl) (by with_unfolding_all rfl) (fun h => nomatch h) rfl
    · refine enum_done rfl (N3 _ (.head _)).1 ⟨oit, (N3 _ (.tail _ (.head _))).1, hic, hid⟩ (by omega) ?_
      intro h4 hk4
      refine sg_pop (.ok .next) (hk _ _ _ ?_)
      have hne2 := others_ne (C := C) hfr
      have F4 : Fr (cutH s0.heap C) C h4 _ := ⟨F3.ns.at' fun o e => hk4 _ o (Nat.ne_of_lt hCi) e, fun b o e9 => hk4 b o (Nat.ne_of_lt (Nat.lt_trans (cut_of e9).2 hCi)) (F3.keep b o e9), F3.above⟩
      have N4 : News (cutH s0.heap C) C h4 (othersH s0.heap C own0) := fun q hq => ⟨hk4 _ _ (hne2 q hq).2 (N3 q (.tail _ (.tail _ hq))).1, (N3 q (.tail _ (.tail _ hq))).2⟩
      clear F3 N3
      have hdrop : x.cps.toList.drop i = [] := List.drop_of_length_le (by rw [Array.length_toList]; omega)
      rw [hdrop]
      show SG _ _ _ (Sem.wrap _ _ _ _ _) _ _ _
      refine sg_execs_cons (sg_If ?_)
      cases esc with
      | true =>
        k_steps
        refine sg_execs_cons (sg_Yield rfl rfl rfl ?_)
        k_steps
        rename ∀ _ _ _, SG _ _ _ _ _ _ _ → SG _ _ _ _ _ _ _ => hc2
        rename News _ _ _ _ => N7
        rename Fr _ _ _ _ => F7
        obtain rfl := hpos rfl
        refine susp_end F7 N7 (by k_mem) ?_ hCm ?_
        · first | exact fun q hq => hq | exact fun q hq => .tail _ hq | exact fun q hq => .tail _ (.tail _ hq) | exact fun q hq => .tail _ (.tail _ (.tail _ hq)) | exact fun q hq => .tail _ (.tail _ (.tail _ (.tail _ hq))) | exact fun q hq => .tail _ (.tail _ (.tail _ (.tail _ (.tail _ hq)))) | exact fun q hq => .tail _ (.tail _ (.tail _ (.tail _ (.tail _ (.tail _ hq)))))
        intro oC hF
        refine GG.of ?_
        rintro ⟨hA2, dA2, fA2, gA2, uA2⟩ s2 hh2 hdp2 hst2 hown2
        have F8 := hF _ (hown2 (C, oC) (.head _))
        have N8 : News (cutH s2.heap C) C s2.heap (othersH s2.heap C [(C, oC)]) := others_news
        show SG _ _ _ _ _ _ _
        refine hc2 _ _ _ ?_
        exact sg_end (.ok (.ret .none)) ⟨rfl, s2.heap, s2.toks, rfl, kept_cut (by simp) F8 N8 fun _ h => h⟩
      | false =>
        k_steps
        rename News _ _ _ _ => N7
        rename Fr _ _ _ _ => F7
        exact sg_end (.ok (.ret .none)) ⟨rfl, _, _, rfl, kept_cut hCm F7 N7 fun _ h => h⟩
end Mine
end SG4
section SG5
open PySem PySem.W PyProof.Rows PySem.Calls PySem.Spec
open PySem.Sem (wp)
namespace Mine
theorem fillG5 : (hd.heap_1 = hd.heap_1 ∧ PySem.Challenge.rw_rs0186_01 = PySem.Challenge.rw_rs0186_01) := by
  k_fill
  w_top off
  exact ⟨rfl, rfl⟩
local macro_rules | `(tactic| walk_at "exec For Tuple Call cons nil") => `(tactic| (k_here; refine MarkG.mk ?_))
local macro_rules | `(tactic| walk_at "exec For Tuple Call") => `(tactic| (k_here; refine MarkG.mk ?_))
local macro_rules | `(tactic| walk_at "call builtin:list.append") => `(tactic| (k_here; (with_reducible show wpAny _ _ (call (Value.builtin _) [Value.ref _, _]) _ _ _); k_dflt (refine' append_K ?k1 ?k2 ?k3 ?_ ?z; (case k1 => k_asm); (case k2 => k_asm); (case k3 => (rename Hid _ => hidX; exact .head hidX.out)); (case z => (simp only [List.size_toArray, sizeLine_eq]; omega)); k_whole); intro h' F' N'; (try k_sweep)))
local macro_rules | `(tactic| walk_at "call builtin:str.join") => `(tactic| (k_here; refine MarkG.mk ?_))
noncomputable def sStep (x : Str) (st : Int × Option Int × List Str) (y : Int × Str) : Int × Option Int × List Str :=
  if (y.2 == Str.ofString "\"") = true then (match st.2.1 with
    | none => (st.1, some y.1, st.2.2)
    | some o => (y.1 + 1, none, if st.1 = o then st.2.2 else st.2.2 ++ [Txt.slice x (some st.1) (some o)])) else st
noncomputable def sEnd (x : Str) (st : Int × Option Int × List Str) : Str := Txt.join (Str.ofString "") (if st.1 < x.length then st.2.2 ++ [Txt.slice x (some st.1) none] else st.2.2)
noncomputable def stripS (x : Str) : Str := if (Builtin.Str.occurrences x (Str.ofString "\"") 0 x.length 1).isEmpty = true then x else sEnd x ((gy 0 false x.cps.toList).foldl (sStep x) (0, none, []))
noncomputable def opV : Option Int → Tok → Value
  | none, _ => .none
  | some o, t => .int o t
theorem gy_len : ∀ (cs : List Nat) (i : Nat) (esc : Bool), (gy i esc cs).length ≤ cs.length + 1
  | [], i, esc => by cases esc <;> simp [gy]
  | c :: cs, i, true => by have := gy_len cs (i + 1) false; simp only [gy, List.length_cons]; omega
  | c :: cs, i, false => by
    have h1 := gy_len cs (i + 1) false
    have h2 := gy_len cs (i + 1) true
    unfold gy
    split <;> simp only [List.length_cons] <;> omega
theorem push_set {α : Type} (a : Array α) (x y : α) : (a.push x).setIfInBounds a.size y = a.push y := by
  apply Array.ext_getElem?
  intro i
  rw [Array.getElem?_setIfInBounds, Array.getElem?_push, Array.getElem?_push]
  by_cases h : i = a.size
  · subst h; simp
  · have h2 : ¬ a.size = i := fun e => h e.symm
    simp [h, h2]
theorem fr_own {g h h' : Heap} {L' : Addr} {m : Str → Option Value} {own news : List (Addr × Obj)} (F : Fr g L' h m) (N : News g L' h news) (hs : ∀ q ∈ own, q ∈ news) (K : Kept own h h') : Fr g L' h' m := by
  have hL : L' ∉ own.map (·.1) := fun hm => by
    obtain ⟨q, hq, e⟩ := List.mem_map.mp hm
    exact (N q (hs q hq)).2.1 e
  refine ⟨F.ns.at' fun o e => K _ o hL e, fun b o e => K b o (fun hm => ?_) (F.keep b o e), F.above⟩
  obtain ⟨q, hq, e9⟩ := List.mem_map.mp hm
  have := (N q (hs q hq)).2.2
  have e8 : q.1 = b := e9
  rw [e8, e] at this; cases this
theorem news_own {g h h' : Heap} {L' res a : Addr} {ro oa : Obj} {m : Str → Option Value} {own own' : List (Addr × Obj)} (F : Fr g L' h m) (N : News g L' h ((res, ro) :: (a, oa) :: own)) (hne : ∀ q ∈ (a, oa) :: own, q.1 ≠ res) (hna : ∀ q ∈ own, q.1 ≠ a)
    (K : Kept own h h') (hfr : Fresh own h own') (hown : has own' h') : News g L' h' ((res, ro) :: (a, oa) :: own') ∧ (∀ q ∈ (a, oa) :: own', q.1 ≠ res) ∧ (∀ q ∈ own', q.1 ≠ a) := by
  have hr := N _ (.head _)
  have ha := N _ (.tail _ (.head _))
  have alive : ∀ (b : Addr) (o : Obj), h.get? b = some o → (∀ q ∈ own, q.1 ≠ b) → ∀ q ∈ own', q.1 ≠ b := by
    intro b o e hb q hq e9
    rcases hfr q hq with h1 | h1
    · obtain ⟨q2, hq2, e2⟩ := List.mem_map.mp h1
      exact hb q2 hq2 (e2.trans e9)
    · rw [e9, e] at h1; cases h1
  have hra : ∀ q ∈ own', q.1 ≠ res := alive res _ hr.1 fun q hq => hne q (.tail _ hq)
  refine ⟨?_, ?_, alive a _ ha.1 hna⟩
  · intro q hq
    rcases List.mem_cons.mp hq with rfl | hq
    · exact ⟨K _ _ (fun hm => by obtain ⟨q2, hq2, e2⟩ := List.mem_map.mp hm; exact hne q2 (.tail _ hq2) e2) hr.1, hr.2⟩
    rcases List.mem_cons.mp hq with rfl | hq
    · exact ⟨K _ _ (fun hm => by obtain ⟨q2, hq2, e2⟩ := List.mem_map.mp hm; exact hna q2 hq2 e2) ha.1, ha.2⟩
    obtain ⟨oL, _, _, hL, _⟩ := F.ns
    refine ⟨hown q hq, alive L' oL hL (fun q2 hq2 => (N q2 (.tail _ (.tail _ hq2))).2.1) q hq, ?_⟩
    cases e : g.get? q.1 with
    | none => rfl
    | some o =>
      rcases hfr q hq with h1 | h1
      · obtain ⟨q2, hq2, e2⟩ := List.mem_map.mp h1
        have h3 := (N q2 (.tail _ (.tail _ hq2))).2.2
        have e3 : q2.1 = q.1 := e2
        rw [e3, e] at h3; cases h3
      · rw [F.keep _ _ e] at h1; cases h1
  · intro q hq
    rcases List.mem_cons.mp hq with rfl | hq
    · exact hne _ (.head _)
    · exact hra q hq
theorem sum_bound {l : List Str} {B k : Nat} (h : ∀ p ∈ l, p.length ≤ B) (hk : l.length ≤ k) (hB : k * B ≤ 16777216 := by decide) : (l.map (·.length)).sum + l.length * (Str.ofString "").length ≤ 16777216 := by
  have e : (Str.ofString "").length = 0 := by decide
  rw [e, Nat.mul_zero, Nat.add_zero]
  have : (l.map (·.length)).sum ≤ l.length * B := by
    clear hk e
    induction l with
    | nil => simp
    | cons a l ih =>
      have h1 := h a (.head _)
      have h2 := ih fun p hp => h p (.tail _ hp)
      simp only [List.map_cons, List.sum_cons, List.length_cons, Nat.add_mul, Nat.one_mul]
      omega
  exact Nat.le_trans this (Nat.le_trans (Nat.mul_le_mul_right _ hk) hB)
noncomputable def JG (M : Model) (g : Heap) (L' res a : Addr) (oa : Obj) (x : Str) (t : Tok) (s : Shared) (stF : Int × Option Int × List Str) (n : Nat) (s1 : Shared) : Prop :=
  ∃ (ys : List (Int × Str)) (own : List (Addr × Obj)) (gs : GenState) (st : Int × Option Int × List Str) (ts to : Tok) (rvs : List Value) (nr : Nat) (h : Heap) (tk : Nat) (m : Str → Option Value), n = ys.length ∧ s1 = { s with heap := h, toks := tk, gens := s.gens.push gs } ∧
    GG M g ys own gs ∧ Fr g L' h m ∧ News g L' h ((res, lstObj rvs nr) :: (a, oa) :: own) ∧ (∀ q ∈ [(Str.ofString "start", Value.int st.1 ts), (Str.ofString "open_pos", opV st.2.1 to), (Str.ofString "result", .ref res), (Str.ofString "addr", .str x t)], m q.1 = some q.2) ∧
    StrsAre rvs st.2.2 ∧ ys.foldl (sStep x) st = stF ∧ (∀ q ∈ (a, oa) :: own, q.1 ≠ res) ∧ (∀ q ∈ own, q.1 ≠ a) ∧ (∀ p ∈ st.2.2, p.length ≤ x.length) ∧ rvs.length + ys.length ≤ 401
theorem turn_leafG {M : Model} {g : Heap} {L' res a : Addr} {oa : Obj} {x : Str} {t : Tok} {s : Shared} {stF st : Int × Option Int × List Str} {y : Int × Str} {ys : List (Int × Str)} {own : List (Addr × Obj)} {gs : GenState} {ts to : Tok} {rvs : List Value} {nr : Nat} {h : Heap} {tk : Nat} {m : Str → Option Value} {news : List (Addr × Obj)} {sv ov : Value}
    (F : Fr g L' h m) (N : News g L' h news) (hr : (res, lstObj rvs nr) ∈ news) (hown : ∀ q ∈ (a, oa) :: own, q ∈ news) (hG : GG M g ys own gs) (h1 : m (Str.ofString "start") = some sv) (h2 : m (Str.ofString "open_pos") = some ov) (h3 : m (Str.ofString "result") = some (.ref res)) (h4 : m (Str.ofString "addr") = some (.str x t))
    (hsv : sv = .int st.1 ts) (hov : ov = opV st.2.1 to) (hrv : StrsAre rvs st.2.2) (hf : ys.foldl (sStep x) st = stF) (hne : ∀ q ∈ (a, oa) :: own, q.1 ≠ res) (hna : ∀ q ∈ own, q.1 ≠ a) (hp : ∀ p ∈ st.2.2, p.length ≤ x.length) (hl : rvs.length + ys.length ≤ 401) :
    TurnG (JG M g L' res a oa x t s stF) (y :: ys).length { s with heap := h, toks := tk, gens := s.gens.push gs } := by
  subst hsv hov
  refine ⟨ys.length, Nat.lt_succ_self _, ys, own, gs, st, ts, to, rvs, nr, h, tk, m, rfl, rfl, hG, F, News.sub N ?_, ?_, hrv, hf, hne, hna, hp, hl⟩
  · intro q hq
    rcases List.mem_cons.mp hq with e | hq
    · exact e ▸ hr
    · exact hown q hq
  · simp only [List.forall_mem_cons]
    exact ⟨h1, h2, h3, h4, fun _ h => nomatch h⟩
set_option maxRecDepth 100000 in
set_option maxHeartbeats 8000000 in
theorem strip_con {prog : Program} {w : World} {p : Program} {loose : List Str} {mean : ExcName → Option Value} {mg mb : Str → Option Value}
    {dp un : Nat} {gd : Option (List Code)} {env : Env} {outer : List Env} {A₀ : Around} {base h₀ : Heap} {L : Addr} {m : Str → Option Value} {s : Shared}
    {Q E : Value → Shared → Prop} {x : Str} {t : Tok}
    (B : Below A₀ base outer h₀) (F : Fr h₀ L s.heap m) (X : (hd.heap_1 w.params).In h₀) (T : Top p loose mean mg mb h₀) (hf : env.frame = some L) (hke : env.scope.kind = .function)
    (hdp : dp ≤ 450) (hun : un ≤ 500) (hx : x.length ≤ 400)
    (hret : ∀ t' h' tk gs, Fr h₀ L h' m → Kept [] s.heap h' → (gs = s.gens ∨ gs = s.gens.push .finished) → Q (.str (stripS x) t') { s with heap := h', toks := tk, gens := gs }) :
    wpAny (model prog w) (at_ dp un gd env outer) (call (.ref 70) [.str x t]) Q E s := by
  refine' call_need_g (need := []) (P := fun v news' gs => (∃ t', v = .str (stripS x) t') ∧ (gs = s.gens ∨ gs = s.gens.push .finished)) B F X (fun _ h => nomatch h) T
    (by exact rfl) hf hke (by show dp < recursionLimit; simp only [recursionLimit]; omega) (by k_is) (by k_is) (by exact rfl) (by exact rfl) (by exact rfl) (by exact rfl) (by exact rfl) (by decide) ?hret ?h
  case hret =>
    rintro v h' tk news' gs ⟨⟨t', rfl⟩, hgs⟩ F' N' hk hfr
    exact hret t' h' tk gs F' hk hgs
  intro g L' h₁ tk hkp hlt F' N' B' X' T'
  clear F T B
  show wpAny _ _ _ _ _ _
  k_fold
  k_steps
  · rename _ = true => hocc
    exact ⟨_, _, _, [], s.gens, rfl, F', N', ⟨t, by unfold stripS; rw [if_pos hocc]⟩, .inl rfl⟩
  rename _ = false => hocc
  rename News _ _ _ _ => N0
  rename Fr _ _ _ _ => F0
  show wpAny _ _ _ _ _ _
  refine wpAny_For ?_
  k_steps
  rename_i res _ _ _
  refine iter_con F0 X' T' (by show dp + 1 < recursionLimit; simp only [recursionLimit]; omega) hx ?_
  intro C oC a oa h2 tk2 gs0 F2 N2 hC0 ha0 hneC hkp2 hgen hbare hGG
  refine wpAny_pyIter_gen (hgen _ (N2 _ (.head _)).1) ?_
  have N3 : News g L' h2 ((res, lstObj [] 0) :: (a, oa) :: [(C, oC)]) := by
    intro q hq
    rcases List.mem_cons.mp hq with rfl | hq
    · exact ⟨hkp2 _ _ (N0 _ (.head _)).1, (N0 _ (.head _)).2⟩
    · exact N2 q hq
  have hne0 : ∀ q ∈ (a, oa) :: [(C, oC)], q.1 ≠ res := by
    intro q hq e9
    have h9 := (N0 (res, lstObj [] 0) (.head _)).1
    simp only [List.mem_cons, List.not_mem_nil, or_false] at hq
    rcases hq with rfl | rfl
    · have e8 : a = res := e9
      rw [← e8, ha0] at h9; cases h9
    · have e8 : C = res := e9
      rw [← e8, hC0] at h9; cases h9
  clear N0 F0
  refine forLoopG (JG (model prog w) g L' res a oa x t s ((gy 0 false x.cps.toList).foldl (sStep x) (0, none, []))) ?turn (gy 0 false x.cps.toList).length ?init
  case init =>
    exact ⟨_, [(C, oC)], gs0, (0, none, []), _, 0, [], 0, h2, tk2, _, rfl, rfl, hGG, F2, N3, by kst_all, .nil, rfl, hne0, (fun q hq => by rw [List.mem_singleton.mp hq]; exact fun e => hneC e.symm), (fun _ h => nomatch h), by
      have h8 := gy_len x.cps.toList 0 false
      have h9 : x.cps.toList.length = x.length := Array.length_toList
      simp only [List.length_nil]
      omega⟩
  case turn =>
    clear N2 F2 N3 hGG hne0
    rintro n s1 ⟨ys, own, gs, st, ts, to, rvs, nr, h, tk, m, rfl, rfl, hG, F1, N1, hm, hrv, hfold, hne, hna, hpl, hlen⟩
    replace F1 := fr_known hm F1
    have hG1 := hgen _ (N1 _ (.tail _ (.head _))).1
    have hgs : (s.gens.push gs)[s.gens.size]? = some gs := Array.getElem?_push_size ..
    have hown : has own h := fun q hq => (N1 q (.tail _ (.tail _ hq))).1
    cases ys with
    | nil =>
      refine pyNext_genG (gs := gs) rfl (T'.nolimit.keeps F1.keep) (by show dp + 1 < recursionLimit; simp only [recursionLimit]; omega) hG1 hgs (hG _ _ rfl (by show dp + 1 ≤ 490; omega) (fun b o e => F1.keep b o e) hown) ?_ ?_
      · rintro r s₂ ⟨e, h3, tk3, rfl, K3⟩
        refine ⟨by injection e, fun h4 hk4 => ?_⟩
        have eg : ((s.gens.push gs).setIfInBounds s.gens.size .running).setIfInBounds s.gens.size .finished = s.gens.push .finished := by rw [push_set, push_set]
        have F3 := fr_own F1 N1 (fun q hq => .tail _ (.tail _ hq)) K3
        have F4 : Fr g L' h4 _ := ⟨F3.ns.keeps hk4, fun b o e => hk4 b o (F3.keep b o e), F3.above⟩
        have N4 : News g L' h4 [(res, lstObj rvs nr)] := by
          intro q hq
          rw [List.mem_singleton.mp hq]
          have h9 := N1 _ (.head _)
          refine ⟨hk4 _ _ (K3 _ _ (fun hm => ?_) h9.1), h9.2⟩
          obtain ⟨q2, hq2, e9⟩ := List.mem_map.mp hm
          exact hne q2 (.tail _ hq2) e9
        clear F1 N1 F3
        show wpAny _ _ _ _ _ { s with heap := h4, toks := tk3, gens := ((s.gens.push gs).setIfInBounds s.gens.size .running).setIfInBounds s.gens.size .finished }
        rw [eg]
        k_steps
        · rename News _ _ _ _ => N9
          rename Fr _ _ _ _ => F9
          rename (Txt.slice _ _ _).length ≤ _ => hsl
          simp only [List.push_toArray] at N9
          show wpAny _ _ (call _ _) _ _ _
          refine join_list (ys := st.2.2 ++ [Txt.slice x (some st.1) none]) ⟨_, (N9 _ (.head _)).1, rfl, _, rfl⟩ (kct_snoc hrv) (sum_bound (B := 400) (k := 402) ?_ ?_) ?_
          · intro p hp
            rcases List.mem_append.mp hp with hp | hp
            · exact Nat.le_trans (hpl p hp) hx
            · rw [List.mem_singleton.mp hp]; exact Nat.le_trans hsl hx
          · have h9 := hrv.length
            simp only [List.length_append, List.length_cons, List.length_nil] at h9 hlen ⊢
            omega
          intro t' k'
          refine ⟨_, _, _, _, s.gens.push .finished, rfl, F9, N9, ⟨t', ?_⟩, .inr rfl⟩
          show Value.str _ _ = _
          unfold stripS sEnd
          rw [if_neg (by rw [hocc]; exact Bool.false_ne_true), ← hfold, List.foldl_nil, if_pos (by assumption)]
        · rename News _ _ _ _ => N9
          rename Fr _ _ _ _ => F9
          show wpAny _ _ (call _ _) _ _ _
          refine join_list (ys := st.2.2) ⟨_, (N9 _ (.head _)).1, rfl, _, rfl⟩ hrv (sum_bound (B := 400) (k := 402) ?_ ?_) ?_
          · intro p hp
            exact Nat.le_trans (hpl p hp) hx
          · have h9 := hrv.length
            simp only [List.length_nil] at h9 hlen ⊢
            omega
          intro t' k'
          refine ⟨_, _, _, _, s.gens.push .finished, rfl, F9, N9, ⟨t', ?_⟩, .inr rfl⟩
          show Value.str _ _ = _
          unfold stripS sEnd
          rw [if_neg (by rw [hocc]; exact Bool.false_ne_true), ← hfold, List.foldl_nil, if_neg (by omega)]
      · rintro v g0 l k c p2 fs s₂ ⟨e, _⟩
        cases e
    | cons y ys =>
      refine pyNext_genG (gs := gs) rfl (T'.nolimit.keeps F1.keep) (by show dp + 1 < recursionLimit; simp only [recursionLimit]; omega) hG1 hgs (hG _ _ rfl (by show dp + 1 ≤ 490; omega) (fun b o e => F1.keep b o e) hown) ?_ ?_
      · rintro r s₂ ⟨_, _, _, _, _, _, _, e, _⟩
        cases e
      · rintro v g0 l k c p2 fs s₂ ⟨_, _, _, _, _, _, _, e, T2, t1, t2, h3, tk3, own', rfl, rfl, hT2, K3, hfr3, hown3, hG3⟩ hb
        cases e
        have eg : ((s.gens.push gs).setIfInBounds s.gens.size .running).setIfInBounds s.gens.size (End.susp (.ref T2) g0 l k c p2 fs).genState = s.gens.push (End.susp (.ref T2) g0 l k c p2 fs).genState := by rw [push_set, push_set]
        have F3 := fr_own F1 N1 (fun q hq => .tail _ (.tail _ hq)) K3
        obtain ⟨N3, hne3, hna3⟩ := news_own F1 N1 hne hna K3 hfr3 hown3
        have hTp : IsTup h3 T2 #[.int y.1 t1, .str y.2 t2] := ⟨_, hT2, rfl, 0, rfl⟩
        clear F1 N1 hT2
        show wpAny _ _ (letOwnedTupleGo _ _ _) _ _ { s with heap := h3, toks := tk3, gens := ((s.gens.push gs).setIfInBounds s.gens.size .running).setIfInBounds s.gens.size (End.susp (.ref T2) g0 l k c p2 fs).genState }
        rw [eg]
        refine letOwned_gen (hgen _ (N3 _ (.tail _ (.head _))).1) ?_
        obtain ⟨y1, y2⟩ := y
        obtain ⟨st1, st2, st3⟩ := st
        generalize (End.susp (.ref T2) g0 l k c p2 fs).genState = gs' at *
        replace hne := Hid.mk hne3
        clear hne3
        show wpAny _ _ (assign _ _ _) _ _ _
        cases st2 with
        | none =>
          dsimp only [opV] at F3
          k_steps
          · rename News _ _ _ _ => N9
            rename (_ == _) = true => hq
            refine turn_leafG (s := s) (st := (st1, some y1, st3)) (by assumption) N9 (by k_mem) (fun q hq => .tail _ hq) hG3 (by with_unfolding_all rfl) (by with_unfolding_all rfl) (by with_unfolding_all rfl) (by with_unfolding_all rfl) rfl rfl hrv ?_ hne.out hna3 hpl (by simp only [List.length_cons] at hlen; omega)
            rw [← hfold, List.foldl_cons]
            congr 1
            unfold sStep
            rw [if_pos hq]
          · rename News _ _ _ _ => N9
            rename (_ == _) = false => hq
            refine turn_leafG (s := s) (st := (st1, none, st3)) (to := to) (by assumption) N9 (by k_mem) (fun q hq => .tail _ hq) hG3 (by with_unfolding_all rfl) (by with_unfolding_all rfl) (by with_unfolding_all rfl) (by with_unfolding_all rfl) rfl rfl hrv ?_ hne.out hna3 hpl (by simp only [List.length_cons] at hlen; omega)
            rw [← hfold, List.foldl_cons]
            congr 1
            unfold sStep
            rw [if_neg (by rw [hq]; exact Bool.false_ne_true)]
        | some o =>
          dsimp only [opV] at F3
          k_steps
          · rename News _ _ _ _ => N9
            rename (_ == _) = true => hq
            rename (Txt.slice _ _ _).length ≤ _ => hsl
            simp only [List.push_toArray] at N9
            refine turn_leafG (s := s) (st := (y1 + 1, none, st3 ++ [Txt.slice x (some st1) (some o)])) (to := 0) (by assumption) N9 (by k_mem) (fun q hq => .tail _ hq) hG3 (by with_unfolding_all rfl) (by with_unfolding_all rfl) (by with_unfolding_all rfl) (by with_unfolding_all rfl) rfl rfl (kct_snoc hrv) ?_ hne.out hna3 ?_ (by simp only [List.length_cons, List.length_append, List.length_nil] at hlen ⊢; omega)
            · rw [← hfold, List.foldl_cons]
              congr 1
              unfold sStep
              rw [if_pos hq]
              show _ = (_, _, if _ then _ else _)
              rw [if_neg (by assumption)]
            · intro p hp
              rcases List.mem_append.mp hp with hp | hp
              · exact hpl p hp
              · rw [List.mem_singleton.mp hp]; exact hsl
          · rename News _ _ _ _ => N9
            rename (_ == _) = true => hq
            refine turn_leafG (s := s) (st := (y1 + 1, none, st3)) (to := 0) (by assumption) N9 (by k_mem) (fun q hq => .tail _ hq) hG3 (by with_unfolding_all rfl) (by with_unfolding_all rfl) (by with_unfolding_all rfl) (by with_unfolding_all rfl) rfl rfl hrv ?_ hne.out hna3 hpl (by simp only [List.length_cons] at hlen; omega)
            rw [← hfold, List.foldl_cons]
            congr 1
            unfold sStep
            rw [if_pos hq]
            show _ = (_, _, if _ then _ else _)
            rw [if_pos (by assumption)]
          · rename News _ _ _ _ => N9
            rename (_ == _) = false => hq
            refine turn_leafG (s := s) (st := (st1, some o, st3)) (to := to) (by assumption) N9 (by k_mem) (fun q hq => .tail _ hq) hG3 (by with_unfolding_all rfl) (by with_unfolding_all rfl) (by with_unfolding_all rfl) (by with_unfolding_all rfl) rfl rfl hrv ?_ hne.out hna3 hpl (by simp only [List.length_cons] at hlen; omega)
            rw [← hfold, List.foldl_cons]
            congr 1
            unfold sStep
            rw [if_neg (by rw [hq]; exact Bool.false_ne_true)]
end Mine
end SG5
end SF
section SPl8
open PySem PyProof PySem.Spec PySem.Builtin PySem.Builtin.Str
namespace Mine
/-- what a text leaves outside its quotation marks: in quotes?, behind a backslash? -/
noncomputable def cutL : Bool → Bool → List Nat → List Nat
  | _, _, [] => []
  | false, true, c :: cs => c :: cutL false false cs
  | true, true, _ :: cs => cutL true false cs
  | false, false, c :: cs => if c = 92 then c :: cutL false true cs else if c = 34 then cutL true false cs else c :: cutL false false cs
  | true, false, c :: cs => if c = 92 then cutL true true cs else if c = 34 then cutL false false cs else cutL true false cs
/-- how a text leaves the reader -/
noncomputable def stL : Bool → Bool → List Nat → Bool × Bool
  | q, e, [] => (q, e)
  | q, true, _ :: cs => stL q false cs
  | q, false, c :: cs => if c = 92 then stL q true cs else if c = 34 then stL (!q) false cs else stL q false cs
theorem cut_append : ∀ (A B : List Nat) (q e : Bool), cutL q e (A ++ B) = cutL q e A ++ cutL (stL q e A).1 (stL q e A).2 B
  | [], B, q, e => by cases q <;> cases e <;> rfl
  | c :: A, B, q, e => by
    have ih := cut_append A B
    cases q <;> cases e <;> simp only [List.cons_append, cutL, stL]
    · split
      · simp [ih]
      · split <;> simp [ih]
    · simp [ih]
    · split
      · simp [ih]
      · split <;> simp [ih]
    · simp [ih]
theorem st_append : ∀ (A B : List Nat) (q e : Bool), stL q e (A ++ B) = stL (stL q e A).1 (stL q e A).2 B
  | [], B, q, e => by cases e <;> rfl
  | c :: A, B, q, e => by
    have ih := st_append A B
    cases e <;> simp only [List.cons_append, stL]
    · split
      · simp [ih]
      · split <;> simp [ih]
    · simp [ih]
/-- a text without a quotation mark is left as it is -/
theorem cut_noquote : ∀ (A : List Nat) (e : Bool), 34 ∉ A → cutL false e A = A
  | [], e, _ => by cases e <;> rfl
  | c :: A, e, h => by
    have h1 : c ≠ 34 := fun e => h (e ▸ .head _)
    have ih := cut_noquote A
    have h2 : 34 ∉ A := fun e => h (.tail _ e)
    cases e
    · simp only [cutL, if_neg h1, ih _ h2]
      split <;> rfl
    · simp only [cutL, ih _ h2]
noncomputable def flatS (l : List Str) : List Nat := l.flatMap fun p => p.cps.toList
theorem join_flat : ∀ (l : List Str), (Str.join ⟨#[]⟩ l).cps.toList = flatS l
  | [] => rfl
  | x :: r => by
    rw [PyProof.Rows.join_nil_cons, PySem.Str.cps_append, Array.toList_append, join_flat r]
    rfl
theorem end_flat (x : Str) (st : Nat) (op : Option Int) (ps : List Str) : (sEnd x ((st : Int), op, ps)).cps.toList = flatS ps ++ x.cps.toList.drop st := by
  have hl : x.cps.toList.length = x.length := Array.length_toList
  unfold sEnd
  rw [eq_of_beq (PyProof.Rows.join_plain_closes _ _), show Str.ofString "" = (⟨#[]⟩ : Str) from rfl, join_flat]
  dsimp only
  split
  · simp only [flatS, List.flatMap_append, List.flatMap_cons, List.flatMap_nil, List.append_nil]
    rw [slice_cps_end]
  · rw [List.drop_of_length_le (by omega), List.append_nil]
theorem q_len : (Str.ofString "\"") = (⟨#[34]⟩ : Str) := by decide
theorem b_len : (Str.ofString "\\") = (⟨#[92]⟩ : Str) := by decide
theorem str_beq (a b : Nat) : ((⟨#[a]⟩ : Str) == ⟨#[b]⟩) = decide (a = b) := by
  by_cases h : a = b
  · subst h; simp
  · simp only [h, decide_false]
    refine beq_eq_false_iff_ne.mpr fun e => h ?_
    injection e with e
    simpa using e
theorem esc_beq (c : Nat) : ((Str.ofString "\\" ++ ⟨#[c]⟩ : Str) == Str.ofString "\"") = false := by
  refine beq_eq_false_iff_ne.mpr fun e => ?_
  have := congrArg Str.length e
  rw [PySem.Str.length_append] at this
  revert this
  show ¬ (Str.ofString "\\").length + 1 = (Str.ofString "\"").length
  decide
theorem bs_beq : (Str.ofString "\\" == Str.ofString "\"") = false := by decide
theorem drop_cons {l : List Nat} {i c : Nat} {cs : List Nat} (h : l.drop i = c :: cs) : l.drop (i + 1) = cs ∧ i < l.length ∧ l[i]? = some c := by
  have h1 : i < l.length := by
    rcases Nat.lt_or_ge i l.length with h1 | h1
    · exact h1
    · rw [List.drop_of_length_le h1] at h; cases h
  refine ⟨?_, h1, ?_⟩
  · rw [← List.tail_drop, h]; rfl
  · have := congrArg (·[0]?) h
    simpa [List.getElem?_drop] using this
theorem take_next {l : List Nat} {s i c : Nat} (h : l[i]? = some c) (hs : s ≤ i) : (l.drop s).take (i + 1 - s) = (l.drop s).take (i - s) ++ [c] := by
  rw [show i + 1 - s = i - s + 1 by lia, List.take_add_one, List.getElem?_drop, show s + (i - s) = i by omega, h]; rfl
theorem step_no (x : Str) (st : Int × Option Int × List Str) (y : Int × Str) (h : (y.2 == Str.ofString "\"") = false) : sStep x st y = st := by
  unfold sStep
  rw [if_neg (by rw [h]; exact Bool.false_ne_true)]
/-- the walk of the stripper over what the reader yields -/
theorem strip_walk (x : Str) : ∀ (cs : List Nat) (i : Nat) (esc : Bool) (start : Nat) (ps : List Str), x.cps.toList.drop i = cs → start ≤ i →
    ((stL false esc cs).1 = false → (sEnd x ((gy i esc cs).foldl (sStep x) ((start : Int), none, ps))).cps.toList = flatS ps ++ (x.cps.toList.drop start).take (i - start) ++ cutL false esc cs) ∧
    (∀ o : Nat, start ≤ o → o < i → (stL true esc cs).1 = false → (sEnd x ((gy i esc cs).foldl (sStep x) ((start : Int), some (o : Int), ps))).cps.toList = flatS ps ++ (x.cps.toList.drop start).take (o - start) ++ cutL true esc cs)
  | [], i, esc, start, ps, hd, hs => by
    have hi : x.cps.toList.length ≤ i := by
      rcases Nat.lt_or_ge i x.cps.toList.length with h | h
      · rw [List.drop_eq_getElem_cons h] at hd; cases hd
      · exact h
    refine ⟨fun _ => ?_, fun o ho hoi hq => ?_⟩
    · have e : (gy i esc []).foldl (sStep x) ((start : Int), none, ps) = ((start : Int), none, ps) := by
        cases esc
        · rfl
        · simp only [gy, if_true, List.foldl_cons, List.foldl_nil]
          exact step_no x _ _ bs_beq
      rw [e, end_flat, List.take_of_length_le (by rw [List.length_drop]; omega)]
      cases esc <;> simp [cutL]
    · cases esc <;> simp [stL] at hq
  | c :: cs, i, esc, start, ps, hd, hs => by
    obtain ⟨hd1, hil, hic⟩ := drop_cons hd
    cases esc with
    | true =>
      have ih := strip_walk x cs (i + 1) false start ps hd1 (by omega)
      have e : ∀ st, (gy i true (c :: cs)).foldl (sStep x) st = (gy (i + 1) false cs).foldl (sStep x) st := fun st => by
        rw [gy, List.foldl_cons, step_no x _ _ (esc_beq c)]
      refine ⟨fun hq => ?_, fun o ho hoi hq => ?_⟩
      · rw [e, ih.1 hq, take_next hic hs]
        simp [cutL]
      · rw [e, ih.2 o ho (by omega) hq]
        simp [cutL]
    | false =>
      by_cases hb : c = 92
      · subst hb
        have ih := strip_walk x cs (i + 1) true start ps hd1 (by omega)
        have e : gy i false (92 :: cs) = gy (i + 1) true cs := by
          rw [gy, b_len, str_beq]; rfl
        refine ⟨fun hq => ?_, fun o ho hoi hq => ?_⟩
        · rw [e, ih.1 hq, take_next hic hs]
          simp [cutL]
        · rw [e, ih.2 o ho (by omega) hq]
          simp [cutL]
      · have e : gy i false (c :: cs) = ((i : Int), ⟨#[c]⟩) :: gy (i + 1) false cs := by
          rw [gy, b_len, str_beq, decide_eq_false hb]; rfl
        by_cases hq34 : c = 34
        · subst hq34
          have qq : ((⟨#[34]⟩ : Str) == Str.ofString "\"") = true := by decide
          refine ⟨fun hq => ?_, fun o ho hoi hq => ?_⟩
          · have ih := (strip_walk x cs (i + 1) false start ps hd1 (by omega)).2 i hs (by omega) hq
            rw [e, List.foldl_cons]
            have e2 : sStep x ((start : Int), none, ps) ((i : Int), ⟨#[34]⟩) = ((start : Int), some (i : Int), ps) := by
              unfold sStep; rw [if_pos qq]
            rw [e2, ih]
            simp [cutL]
          · rw [e, List.foldl_cons]
            have e2 : sStep x ((start : Int), some (o : Int), ps) ((i : Int), ⟨#[34]⟩) = (((i + 1 : Nat) : Int), none, if (start : Int) = (o : Int) then ps else ps ++ [Txt.slice x (some (start : Int)) (some (o : Int))]) := by
              unfold sStep; rw [if_pos qq]; push_cast; rfl
            rw [e2]
            have ih := (strip_walk x cs (i + 1) false (i + 1) (if (start : Int) = (o : Int) then ps else ps ++ [Txt.slice x (some (start : Int)) (some (o : Int))]) hd1 (by omega)).1 hq
            rw [ih]
            have e3 : flatS (if (start : Int) = (o : Int) then ps else ps ++ [Txt.slice x (some (start : Int)) (some (o : Int))]) = flatS ps ++ (x.cps.toList.drop start).take (o - start) := by
              split
              · rename_i h
                rw [show o - start = 0 by omega, List.take_zero, List.append_nil]
              · simp only [flatS, List.flatMap_append, List.flatMap_cons, List.flatMap_nil, List.append_nil]
                rw [slice_cps]
            rw [e3]
            simp [cutL]
        · have nq : ((⟨#[c]⟩ : Str) == Str.ofString "\"") = false := by rw [q_len, str_beq, decide_eq_false hq34]
          have ih := strip_walk x cs (i + 1) false start ps hd1 (by omega)
          have e2 : ∀ st, (gy i false (c :: cs)).foldl (sStep x) st = (gy (i + 1) false cs).foldl (sStep x) st := fun st => by
            rw [e, List.foldl_cons, step_no x _ _ nq]
          refine ⟨fun hq => ?_, fun o ho hoi hq => ?_⟩
          · rw [e2, ih.1 (by simpa [stL, hb, hq34] using hq), take_next hic hs]
            simp [cutL, hb, hq34]
          · rw [e2, ih.2 o ho (by omega) (by simpa [stL, hb, hq34] using hq)]
            simp [cutL, hb, hq34]
theorem strip_cut (x : Str) (h : (stL false false x.cps.toList).1 = false) : (stripS x).cps.toList = cutL false false x.cps.toList := by
  unfold stripS
  split
  · rename_i ho
    rw [q_len, PyProof.Rows.empty_one] at ho
    exact (cut_noquote _ _ (by simpa using ho)).symm
  · have := (strip_walk x x.cps.toList 0 false 0 [] rfl (Nat.le_refl _)).1 h
    rw [show ((0 : Nat) : Int) = 0 from rfl] at this
    rw [this]
    simp [flatS]
end Mine
end SPl8
section SPl9
open PySem PyProof PySem.Spec PySem.Builtin PySem.Builtin.Str
namespace Mine
/-- a remark leaves nothing outside -/
noncomputable def okRem (r : Str) : Prop := cutL false false r.cps.toList = [] ∧ stL false false r.cps.toList = (false, false) ∧ r.length ≤ 10
/-- a deed as it is drawn -/
noncomputable def DrawnD (d : Deed) : Prop := 0 ≤ d.kind ∧ d.kind < 6 ∧ 0 ≤ d.amount ∧ d.amount < 64 ∧ okRem d.remark
theorem okRem_of (i : Int) : okRem (remOf i) := by
  unfold remOf
  (repeat' split) <;> exact ⟨by decide +kernel, by decide +kernel, by decide +kernel⟩
noncomputable def plainC (l : List Nat) : Prop := ∀ c ∈ l, c ≠ 34 ∧ c ≠ 92
theorem plain_cut : ∀ {l : List Nat}, plainC l → cutL false false l = l ∧ stL false false l = (false, false)
  | [], _ => ⟨rfl, rfl⟩
  | c :: l, h => by
    have h1 := h c (.head _)
    have ih := plain_cut fun d hd => h d (.tail _ hd)
    simp only [cutL, stL, if_neg h1.1, if_neg h1.2, ih]
    exact ⟨trivial, trivial⟩
theorem plain_app {a b : List Nat} (ha : plainC a) (hb : plainC b) : plainC (a ++ b) := fun c hc => (List.mem_append.mp hc).elim (ha c) (hb c)
theorem cps_app (a b : Str) : (a ++ b).cps.toList = a.cps.toList ++ b.cps.toList := by rw [PySem.Str.cps_append, Array.toList_append]
theorem dig_cps (n : Int) (h0 : 0 ≤ n) (h1 : n < 8) : (Str.ofString (toString n)).cps.toList = [48 + n.toNat] := by
  have : n = 0 ∨ n = 1 ∨ n = 2 ∨ n = 3 ∨ n = 4 ∨ n = 5 ∨ n = 6 ∨ n = 7 := by lia
  rcases this with rfl | rfl | rfl | rfl | rfl | rfl | rfl | rfl <;> decide +kernel
theorem figs_cps {a : Int} (h0 : 0 ≤ a) (h1 : a < 64) : (figs a).cps.toList = tokC (256 + a) := by
  unfold figs
  rw [tok_num (by omega), cps_app, Int.fdiv_eq_ediv_of_nonneg _ (by decide), Int.fmod_eq_emod_of_nonneg _ (by decide), dig_cps _ (by omega) (by omega), dig_cps _ (by omega) (by omega)]
  rw [show 256 + a - 256 = a by lia]; rfl
theorem figs_plain {a : Int} (h0 : 0 ≤ a) (h1 : a < 64) : plainC (figs a).cps.toList := by
  rw [figs_cps h0 h1, tok_num (by omega)]
  intro c hc
  simp only [List.mem_cons, List.not_mem_nil, or_false] at hc
  omega
theorem op_plain (k : Int) : plainC (opOf k).cps.toList := by
  unfold opOf
  (repeat' split) <;> (intro c hc; revert c; decide +kernel)
theorem op_cps {k : Int} (h0 : 0 ≤ k) (h1 : k < 6) (h3 : k ≠ 3) (h5 : k ≠ 5) : (opOf k).cps.toList = renderC (opS k) := by
  have : k = 0 ∨ k = 1 ∨ k = 2 ∨ k = 4 := by lia
  rcases this with rfl | rfl | rfl | rfl <;> decide +kernel
theorem render_app (a b : List Int) : renderC (a ++ b) = renderC a ++ renderC b := List.flatMap_append ..
theorem seg_cut {p t q r : List Nat} (hp : plainC p) (ht : stL false false t = (false, false)) (hq : plainC q) (hr : cutL false false r = []) (hr2 : stL false false r = (false, false)) :
    cutL false false (p ++ t ++ q ++ r) = p ++ cutL false false t ++ q ∧ stL false false (p ++ t ++ q ++ r) = (false, false) := by
  have a := plain_cut hp
  have b := plain_cut hq
  simp only [cut_append, st_append, a, b, ht, hr, hr2, List.append_nil]
  exact ⟨trivial, trivial⟩
theorem write_cut {tx : Str} {ss : List Int} {d : Deed} (hd : DrawnD d) (h : cutL false false tx.cps.toList = renderC ss) (h2 : stL false false tx.cps.toList = (false, false)) :
    cutL false false (writeD tx d).cps.toList = renderC (wrapK d.kind d.amount ss) ∧ stL false false (writeD tx d).cps.toList = (false, false) := by
  obtain ⟨hk0, hk1, ha0, ha1, hr1, hr2, _⟩ := hd
  obtain ⟨k, a, r⟩ := d
  dsimp only at *
  unfold writeD wrapK
  have pl : ∀ s : Str, (∀ c ∈ s.cps.toList, c ≠ 34 ∧ c ≠ 92) → plainC s.cps.toList := fun _ h => h
  by_cases h3 : k = 3
  · rw [if_pos h3, if_pos h3]
    simp only [cps_app]
    have := seg_cut (p := (Str.ofString "~(").cps.toList) (q := (Str.ofString ")").cps.toList) (pl _ (by decide +kernel)) h2 (pl _ (by decide +kernel)) hr1 hr2
    rw [this.1, this.2, h]
    refine ⟨?_, rfl⟩
    rw [show (31 :: 7 :: (ss ++ [8])) = [31, 7] ++ ss ++ [8] from rfl, render_app, render_app]
    congr 1
  · rw [if_neg h3, if_neg h3]
    by_cases h5 : k = 5
    · rw [if_pos h5, if_pos h5]
      simp only [cps_app]
      rw [show (figs a).cps.toList ++ (Str.ofString "-(").cps.toList ++ tx.cps.toList ++ (Str.ofString ")").cps.toList ++ r.cps.toList = ((figs a).cps.toList ++ (Str.ofString "-(").cps.toList) ++ tx.cps.toList ++ (Str.ofString ")").cps.toList ++ r.cps.toList from rfl]
      have := seg_cut (p := (figs a).cps.toList ++ (Str.ofString "-(").cps.toList) (q := (Str.ofString ")").cps.toList) (plain_app (figs_plain ha0 ha1) (pl _ (by decide +kernel))) h2 (pl _ (by decide +kernel)) hr1 hr2
      rw [this.1, this.2, h]
      refine ⟨?_, rfl⟩
      rw [show ((256 + a) :: 15 :: 7 :: (ss ++ [8])) = [256 + a] ++ [15, 7] ++ ss ++ [8] from rfl, render_app, render_app, render_app, figs_cps ha0 ha1]
      congr 1
      congr 1
      congr 1
      exact (List.append_nil _).symm
    · rw [if_neg h5, if_neg h5]
      simp only [cps_app]
      have := seg_cut (p := (Str.ofString "(").cps.toList) (t := tx.cps.toList) (q := (Str.ofString ")").cps.toList ++ (opOf k).cps.toList ++ (figs a).cps.toList) (pl _ (by decide +kernel)) h2 (plain_app (plain_app (pl _ (by decide +kernel)) (op_plain k)) (figs_plain ha0 ha1)) hr1 hr2
      simp only [← List.append_assoc] at this
      rw [this.1, this.2, h]
      refine ⟨?_, rfl⟩
      rw [show (7 :: (ss ++ 8 :: (opS k ++ [256 + a]))) = [7] ++ ss ++ ([8] ++ opS k ++ [256 + a]) by simp, render_app, render_app, render_app, render_app, figs_cps ha0 ha1, op_cps hk0 hk1 h3 h5]
      simp only [List.append_assoc]
      congr 1
      congr 1
      congr 1
      congr 1
      exact (List.append_nil _).symm
theorem written_cut : ∀ (ds : List Deed) (tx : Str) (ss : List Int), (∀ d ∈ ds, DrawnD d) → cutL false false tx.cps.toList = renderC ss → stL false false tx.cps.toList = (false, false) →
    cutL false false (ds.foldl writeD tx).cps.toList = renderC (ds.foldl (fun ss d => wrapK d.kind d.amount ss) ss) ∧ stL false false (ds.foldl writeD tx).cps.toList = (false, false)
  | [], _, _, _, h, h2 => ⟨h, h2⟩
  | d :: ds, tx, ss, hd, h, h2 => by
    have := write_cut (hd d (.head _)) h h2
    exact written_cut ds _ _ (fun e he => hd e (.tail _ he)) this.1 this.2
/-- what the stripper leaves of a formula: its symbols -/
theorem strip_written {ds : List Deed} (h : ∀ d ∈ ds, DrawnD d) : (stripS (written ds)).cps.toList = renderC (symsOf ds) := by
  have := written_cut ds (Str.ofString "x") [1] h (by decide +kernel) (by decide +kernel)
  rw [strip_cut _ (by show (stL false false (written ds).cps.toList).1 = false; exact congrArg Prod.fst this.2)]
  exact this.1
theorem good_app : ∀ {a b : List Int}, goodSyms a → goodSyms b → goodSyms (a ++ b)
  | [], _, _, hb => hb
  | v :: r, b, ha, hb => by
    obtain ⟨h1, h2, h3⟩ := ha
    refine ⟨h1, fun hv => ?_, good_app h3 hb⟩
    obtain ⟨n, r', rfl, hn⟩ := h2 hv
    exact ⟨n, r' ++ b, rfl, hn⟩
theorem wrap_good {k a : Int} {ss : List Int} (h0 : 0 ≤ k) (h1 : k < 6) (ha0 : 0 ≤ a) (ha1 : a < 64) (hs : goodSyms ss) : goodSyms (wrapK k a ss) := by
  have num : okSym (256 + a) := by unfold okSym; omega
  have g1 : goodSyms [256 + a] := ⟨num, fun h => by omega, trivial⟩
  have g8 : goodSyms [8] := ⟨by unfold okSym; omega, fun h => by omega, trivial⟩
  have g7 : ∀ {r : List Int}, goodSyms r → goodSyms (7 :: r) := fun h => ⟨by unfold okSym; lia, fun h => by lia, h⟩
  unfold wrapK
  split
  · exact ⟨by unfold okSym; lia, fun h => by lia, g7 (good_app hs g8)⟩
  · split
    · exact ⟨num, fun h => by omega, ⟨by unfold okSym; omega, fun _ => ⟨7, _, rfl, by omega⟩, g7 (good_app hs g8)⟩⟩
    · refine g7 (good_app hs ⟨by unfold okSym; omega, fun h => by omega, ?_⟩)
      have op1 : ∀ v : Int, v = 47 ∨ v = 34 ∨ v = 14 ∨ v = 15 → goodSyms (v :: [256 + a]) := fun v hv => ⟨by unfold okSym; lia, fun _ => ⟨256 + a, [], rfl, by lia⟩, g1⟩
      unfold opS
      (repeat' split)
      · exact op1 47 (by omega)
      · exact ⟨by unfold okSym; omega, fun _ => ⟨15, _, rfl, by omega⟩, op1 15 (by omega)⟩
      · exact op1 34 (by omega)
      · exact op1 14 (by omega)
theorem syms_good : ∀ (ds : List Deed) (ss : List Int), (∀ d ∈ ds, DrawnD d) → goodSyms ss → goodSyms (ds.foldl (fun ss d => wrapK d.kind d.amount ss) ss)
  | [], _, _, h => h
  | d :: ds, ss, hd, h => by
    obtain ⟨a, b, c, e, _⟩ := hd d (.head _)
    exact syms_good ds _ (fun e he => hd e (.tail _ he)) (wrap_good a b c e h)
theorem symsOf_good {ds : List Deed} (h : ∀ d ∈ ds, DrawnD d) : goodSyms (symsOf ds) := syms_good ds [1] h ⟨by unfold okSym; omega, fun h => by lia, trivial⟩
theorem drawn_ok (t kn : Int) (hk : kn = 3 ∨ kn = 6) : DrawnD (drawD t kn) := by
  have h1 : 0 ≤ t.fmod kn ∧ t.fmod kn < 6 := by
    rcases hk with rfl | rfl <;> rw [Int.fmod_eq_emod_of_nonneg _ (by decide)] <;> lia
  have h2 : 0 ≤ (t.fdiv 36).fmod 32 ∧ (t.fdiv 36).fmod 32 < 32 := by
    rw [Int.fmod_eq_emod_of_nonneg _ (by decide)]; omega
  have h3 : 0 ≤ ((t.fdiv 36).fmod 32).fmod 3 ∧ ((t.fdiv 36).fmod 32).fmod 3 < 3 := by
    rw [Int.fmod_eq_emod_of_nonneg _ (by decide)]; omega
  refine ⟨h1.1, h1.2, ?_, ?_, okRem_of _⟩
  · show 0 ≤ amtOf t kn
    unfold amtOf
    (repeat' split) <;> omega
  · show amtOf t kn < 64
    unfold amtOf
    (repeat' split) <;> omega
end Mine
end SPl9
section SPl10
namespace Mine
open PySem
theorem div_of {X k r Z : Int} (hZ : 0 < Z) (h : X = k * Z + r) (h0 : 0 ≤ r) (h1 : r < Z) : X / Z = k := by
  rw [h, Int.add_comm, Int.add_mul_ediv_right _ _ (Int.ne_of_gt hZ), Int.ediv_eq_zero_of_lt h0 h1, Int.zero_add]
theorem ediv2 (m k : Int) {n : Int} (hn : 0 < n) : m / n / k = m / (n * k) := by
  rw [Int.ediv_ediv, if_neg (fun h => absurd h.1 (by omega)), Int.sub_zero]
theorem neg_div {N Z : Int} (hZ : 0 < Z) : (-N - 1) / Z = -(N / Z) - 1 := by
  have e := Int.mul_ediv_add_emod N Z
  have r0 := Int.emod_nonneg N (Int.ne_of_gt hZ)
  have r1 := Int.emod_lt_of_pos N hZ
  refine div_of (r := Z - N % Z - 1) hZ ?_ (by omega) (by omega)
  rw [Int.sub_mul, Int.neg_mul, Int.one_mul, Int.mul_comm (N / Z) Z]
  lia
/-- a deed that can be drawn -/
noncomputable def OkD (d : Deed) : Prop := 0 ≤ d.kind ∧ d.kind < 6 ∧ (d.kind < 2 → 3 ≤ d.amount) ∧ (d.kind = 2 → 1 ≤ d.amount ∧ d.amount ≤ 3) ∧ 0 ≤ d.amount ∧ d.amount ≤ 34
theorem okD_of (t kn : Int) (hk : kn = 3 ∨ kn = 6) : OkD (drawD t kn) := by
  have h1 : 0 ≤ t.fmod kn ∧ t.fmod kn < 6 := by
    rcases hk with rfl | rfl <;> rw [Int.fmod_eq_emod_of_nonneg _ (by decide)] <;> lia
  have h2 : 0 ≤ (t.fdiv 36).fmod 32 ∧ (t.fdiv 36).fmod 32 < 32 := by
    rw [Int.fmod_eq_emod_of_nonneg _ (by decide)]; omega
  have h3 : 0 ≤ ((t.fdiv 36).fmod 32).fmod 3 ∧ ((t.fdiv 36).fmod 32).fmod 3 < 3 := by
    rw [Int.fmod_eq_emod_of_nonneg _ (by decide)]; omega
  have e : (drawD t kn).amount = amtOf t kn := rfl
  have e2 : (drawD t kn).kind = t.fmod kn := rfl
  unfold OkD
  rw [e, e2]
  unfold amtOf
  (repeat' split) <;> omega
theorem okDeed_read {d : Deed} (h : OkD d) : OkDeed (readD d) := by
  obtain ⟨h0, h1, h2, h3, h4, h5⟩ := h
  unfold OkDeed readD
  (repeat' split) <;> simp only <;> lia
/-- the shape of the whole: side, plus, size -/
noncomputable def OkW (st : Int × Int × Int) (B C : Int) : Prop := (st.1 = 1 ∨ st.1 = -1) ∧ 0 < st.2.2 ∧ st.2.2 ≤ C ∧ -B ≤ st.2.1 ∧ st.2.1 ≤ B
theorem pow_small {a : Int} (h0 : 1 ≤ a) (h1 : a ≤ 3) : (2 : Int) ^ a.toNat = 2 ∧ a = 1 ∨ (2 : Int) ^ a.toNat = 4 ∧ a = 2 ∨ (2 : Int) ^ a.toNat = 8 ∧ a = 3 := by
  have : a = 1 ∨ a = 2 ∨ a = 3 := by lia
  rcases this with rfl | rfl | rfl <;> decide
theorem mul_bound {Z a C : Int} {k : Int} (hZ : 0 < Z) (hC : Z ≤ C) (h0 : 0 ≤ a) (h1 : a ≤ k) : 0 ≤ Z * a ∧ Z * a ≤ C * k := by
  refine ⟨Int.mul_nonneg (by omega) h0, Int.le_trans (Int.mul_le_mul_of_nonneg_right hC h0) (Int.mul_le_mul_of_nonneg_left h1 (by omega))⟩
theorem step_ok {st : Int × Int × Int} {B C : Int} {d : Deed} (hd : OkD d) (h : OkW st B C) : OkW (wholeStep st d) (B + 1 + C * 35) (C * 34) := by
  obtain ⟨k0, k1, ka, kb, a0, a1⟩ := hd
  obtain ⟨s, z0, z1, p0, p1⟩ := h
  obtain ⟨S, P, Z⟩ := st
  obtain ⟨k, a, r⟩ := d
  dsimp only at *
  have m1 := mul_bound z0 z1 a0 (show a ≤ 34 by omega)
  have m2 := mul_bound z0 z1 (show 0 ≤ a + 1 by omega) (show a + 1 ≤ 35 by omega)
  have hC : C ≤ C * 34 := by omega
  have c1 : a * Z = Z * a := Int.mul_comm _ _
  have c2 : (a + 1) * Z = Z * (a + 1) := Int.mul_comm _ _
  have c3 : Z * (a + 1) = Z * a + Z := by rw [Int.mul_add, Int.mul_one]
  have hpos : 0 < a → 0 < Z * a := fun h => Int.mul_pos z0 h
  refine ⟨?_, ?_, ?_, ?_, ?_⟩
  · show wSide k S = 1 ∨ wSide k S = -1
    unfold wSide; split <;> lia
  · show 0 < wSize k a Z
    unfold wSize
    split
    · exact hpos (by have := ka (by assumption); omega)
    · split
      · rename_i h2
        obtain ⟨b0, b1⟩ := kb h2
        rcases pow_small b0 b1 with ⟨e, _⟩ | ⟨e, _⟩ | ⟨e, _⟩ <;> rw [e] <;> omega
      · exact z0
  · show wSize k a Z ≤ C * 34
    unfold wSize
    split
    · omega
    · split
      · rename_i h2
        obtain ⟨b0, b1⟩ := kb h2
        rcases pow_small b0 b1 with ⟨e, _⟩ | ⟨e, _⟩ | ⟨e, _⟩ <;> rw [e] <;> lia
      · lia
  · show -(B + 1 + C * 35) ≤ wPlus k a P Z
    unfold wPlus
    rw [c1, c2]
    (repeat' split) <;> lia
  · show wPlus k a P Z ≤ B + 1 + C * 35
    unfold wPlus
    rw [c1, c2]
    (repeat' split) <;> omega
theorem step_law {S P Z v : Int} {d : Deed} (hd : OkD d) (hZ : 0 < Z) :
    doneStep ((S * v + P).fdiv Z) (readD d) = ((wholeStep (S, P, Z) d).1 * v + (wholeStep (S, P, Z) d).2.1).fdiv (wholeStep (S, P, Z) d).2.2 := by
  obtain ⟨k0, k1, ka, kb, a0, a1⟩ := hd
  obtain ⟨k, a, r⟩ := d
  dsimp only at *
  generalize hN : S * v + P = N
  have hneg : -S * v + (-P - 1) = -N - 1 := by rw [Int.neg_mul]; omega
  have nd := neg_div (N := N) hZ
  rw [Int.fdiv_eq_ediv_of_nonneg _ (Int.le_of_lt hZ)]
  have hk : k = 0 ∨ k = 1 ∨ k = 2 ∨ k = 3 ∨ k = 4 ∨ k = 5 := by lia
  rcases hk with rfl | rfl | rfl | rfl | rfl | rfl
  · have ha : 3 ≤ a := ka (by decide)
    show (N / Z).fdiv a = (S * v + (P + 0)).fdiv (Z * a)
    rw [Int.add_zero, hN, Int.fdiv_eq_ediv_of_nonneg _ (by omega), Int.fdiv_eq_ediv_of_nonneg _ (Int.le_of_lt (Int.mul_pos hZ (by omega))), ediv2 _ _ hZ]
  · have ha : 3 ≤ a := ka (by decide)
    show (N / Z).fdiv (-a) = (-S * v + ((-P - 1) + Z)).fdiv (Z * a)
    rw [← Int.add_assoc, hneg, Int.fdiv_eq_ediv_of_nonneg _ (Int.le_of_lt (Int.mul_pos hZ (by omega : 0 < a))), ← ediv2 _ _ hZ]
    have e1 : (-N - 1 + Z) / Z = -(N / Z) := by
      have := Int.add_mul_ediv_right (-N - 1) 1 (Int.ne_of_gt hZ)
      rw [Int.one_mul] at this
      rw [this, nd]; lia
    rw [e1, ← Int.neg_fdiv_neg (N / Z) (-a), Int.neg_neg, Int.fdiv_eq_ediv_of_nonneg _ (by omega)]
  · obtain ⟨b0, b1⟩ := kb rfl
    show (N / Z).fdiv (2 ^ a.toNat) = (S * v + (P + 0)).fdiv (Z * 2 ^ a.toNat)
    have hp : (0 : Int) < 2 ^ a.toNat := Int.pow_pos (by decide)
    rw [Int.add_zero, hN, Int.fdiv_eq_ediv_of_nonneg _ (Int.le_of_lt hp), Int.fdiv_eq_ediv_of_nonneg _ (Int.le_of_lt (Int.mul_pos hZ hp)), ediv2 _ _ hZ]
  · show -1 - N / Z = (-S * v + ((-P - 1) + 0)).fdiv Z
    rw [Int.add_zero, hneg, Int.fdiv_eq_ediv_of_nonneg _ (Int.le_of_lt hZ), nd]; lia
  · show N / Z + a = (S * v + (P + a * Z)).fdiv Z
    rw [← Int.add_assoc, hN, Int.fdiv_eq_ediv_of_nonneg _ (Int.le_of_lt hZ), Int.add_mul_ediv_right _ _ (Int.ne_of_gt hZ)]
  · show a - N / Z = (-S * v + ((-P - 1) + (a + 1) * Z)).fdiv Z
    rw [← Int.add_assoc, hneg, Int.fdiv_eq_ediv_of_nonneg _ (Int.le_of_lt hZ), Int.add_mul_ediv_right _ _ (Int.ne_of_gt hZ), nd]; lia
/-- all deeds are one division -/
theorem whole_law : ∀ (ds : List Deed) (S P Z v : Int) (B C : Int), (∀ d ∈ ds, OkD d) → OkW (S, P, Z) B C →
    (ds.map readD).foldl doneStep ((S * v + P).fdiv Z) = ((ds.foldl wholeStep (S, P, Z)).1 * v + (ds.foldl wholeStep (S, P, Z)).2.1).fdiv (ds.foldl wholeStep (S, P, Z)).2.2
  | [], _, _, _, _, _, _, _, _ => rfl
  | d :: ds, S, P, Z, v, B, C, hd, hW => by
    have h1 := hd d (.head _)
    rw [List.map_cons, List.foldl_cons, List.foldl_cons, step_law h1 hW.2.1]
    exact whole_law ds _ _ _ v _ _ (fun e he => hd e (.tail _ he)) (step_ok h1 hW)
theorem done_whole {ds : List Deed} (h : ∀ d ∈ ds, OkD d) (v : Int) : doneAll (ds.map readD) v = ((whole ds).1 * v + (whole ds).2.1).fdiv (whole ds).2.2 := by
  have := whole_law ds 1 0 1 v 0 1 h ⟨.inl rfl, by decide, by decide, by decide, by decide⟩
  have e : (1 * v + 0).fdiv 1 = v := by rw [Int.one_mul, Int.add_zero, Int.fdiv_one]
  rw [e] at this
  exact this
theorem whole_ok {a b c d : Deed} (h : ∀ e ∈ [a, b, c, d], OkD e) : OkW (whole [a, b, c, d]) 1500000 1336336 := by
  have h0 : OkW (1, 0, 1) 0 1 := ⟨.inl rfl, by decide, by decide, by decide, by decide⟩
  have h1 := step_ok (h a (.head _)) h0
  have h2 := step_ok (h b (.tail _ (.head _))) h1
  have h3 := step_ok (h c (.tail _ (.tail _ (.head _)))) h2
  have h4 := step_ok (h d (.tail _ (.tail _ (.tail _ (.head _))))) h3
  obtain ⟨p, q, r, s, t⟩ := h4
  exact ⟨p, q, Int.le_trans r (by decide), Int.le_trans (by decide) s, Int.le_trans t (by decide)⟩
/-- where x stands in the row of all numbers with its value -/
theorem row_law {ds : List Deed} (h : ∀ d ∈ ds, OkD d) {S P Z x told rest low high : Int} (hw : whole ds = (S, P, Z)) (hS : S = 1 ∨ S = -1) (hZ : 0 < Z)
    (ht : told = (S * x + P).fdiv Z) (hr : rest = (S * x + P) - told * Z) (hl : low = x - S * rest) (hh : high = low + S * (Z - 1)) :
    0 ≤ rest ∧ rest < Z ∧ doneAll (ds.map readD) x = told ∧ doneAll (ds.map readD) low = told ∧ doneAll (ds.map readD) high = told ∧ doneAll (ds.map readD) (low - S) = told - 1 ∧ doneAll (ds.map readD) (high + S) = told + 1 := by
  simp only [done_whole h, hw]
  rw [Int.fdiv_eq_ediv_of_nonneg _ (Int.le_of_lt hZ)] at ht
  have e := Int.mul_ediv_add_emod (S * x + P) Z
  have r0 := Int.emod_nonneg (S * x + P) (Int.ne_of_gt hZ)
  have r1 := Int.emod_lt_of_pos (S * x + P) hZ
  rw [← ht, Int.mul_comm] at e
  have hrest : rest = (S * x + P) % Z := by omega
  have dv : ∀ {X k r : Int}, X = k * Z + r → 0 ≤ r → r < Z → X.fdiv Z = k := fun h0 h1 h2 => by
    rw [Int.fdiv_eq_ediv_of_nonneg _ (Int.le_of_lt hZ)]; exact div_of hZ h0 h1 h2
  have t1 : (told - 1) * Z = told * Z - Z := by rw [Int.sub_mul, Int.one_mul]
  have t2 : (told + 1) * Z = told * Z + Z := by rw [Int.add_mul, Int.one_mul]
  refine ⟨by omega, by omega, dv (r := rest) (by omega) (by omega) (by omega), ?_⟩
  rcases hS with rfl | rfl
  · exact ⟨dv (r := 0) (by omega) (by omega) (by omega), dv (r := Z - 1) (by omega) (by omega) (by omega), dv (r := Z - 1) (by omega) (by omega) (by omega), dv (r := 0) (by omega) (by omega) (by omega)⟩
  · exact ⟨dv (r := 0) (by omega) (by omega) (by omega), dv (r := Z - 1) (by omega) (by omega) (by omega), dv (r := Z - 1) (by omega) (by omega) (by omega), dv (r := 0) (by omega) (by omega) (by omega)⟩
end Mine
end SPl10
section STop2
open PySem PySem.W PyProof.Rows
namespace Mine
noncomputable abbrev as9 : List Addr := [2,3,6,15,17,18,20,21,22,24,25,27,28,29,31,32,34,35,36,38,39,41,42,43,45,46,48,49,50,52,53,55,56,57,59,60,62,63,64,66,67,69,70,71,74,76,77,79,80,81,83,84,86,87,88,90,91,93,94,95,97,98,100,101,102,104,105,107,108,109,111,112,114,115,116,118,119,121,122,123,126,127]
noncomputable abbrev H9 : Hook := kmHook hd.heap_1 as9 (fun _ => by kernel_rfl) [37, 30]
noncomputable abbrev Xt9 : Shared → Bool := fun s => xlAt view9 [] s && recOk (RowW.records PySem.Challenge.rw_rs0186_01.row.toRowW) s
/-- the program, its body, the place of its run -/
noncomputable abbrev p9 : Program := PySem.Challenge.rw_rs0186_01.row.prog
noncomputable def b9 : List Stmt := behindTheImports p9
noncomputable def env9 : Env := { scope := p9.main.scope, locals := mainNs, globals := mainNs, cells := [], code := .ref 13, frame := some 14 }
noncomputable def c9 : Code := .body b9 env9
noncomputable abbrev q0 : Pos := { line := 0, col := 0, endLine := 0, endCol := 0 }
noncomputable abbrev q60 : Pos := { line := 157, col := 0, endLine := 157, endCol := 9 }
noncomputable abbrev q61 : Pos := { line := 158, col := 0, endLine := 158, endCol := 17 }
noncomputable abbrev ann9 : Option Value := some (.ref 6)
/-- the objects amid the run, told from those at its end -/
noncomputable def kO (P : Params) (a : Addr) : Obj := ((hd.heap_1 P).lookup a).getD default
noncomputable def cO (o : Obj) : Obj := match o.data with
  | .func f => { cls := .none, data := .func { f with globals := 0, pyModule := .none, code := .none } }
  | _ => o
noncomputable def dO (o : Obj) (n : Nat) : Obj := match o.data with
  | .dict es _ => { o with data := .dict ((es.toList.take n).modifyHead fun e => { e with val := .str (Str.ofString "cpy313.token") 293 }).toArray n }
  | _ => o
noncomputable def partO (o : Obj) (a n : Nat) : Obj := match o.data with
  | .dict es _ => { o with data := .dict ((es.toList.drop a).take n).toArray n }
  | _ => o
noncomputable def o13 : Obj := { cls := .type "code", data := .fields #[.str (Str.ofString "<module>") 182, .str (Str.ofString "<module>") 183, .str (Str.ofString "/claim/cut.py") 184, .int 1 0, .int 0 0, .int 0 0, .int 0 0, .int 0 0, .ref 11, .bool false, .int 181 0, .ref 12, .none, .none, .none, .none, .int 185 0, .int 1 0, .str (Str.ofString "/claim/cut.py") 186] }
noncomputable def o14 : Obj := { cls := .type "frame", slots := #[some (.ref 13), some (.ref 3), some (.ref 3), none, some (.str (Str.ofString "__main__") 164), none, some (.ref 0)] }
noncomputable def tab60 : Obj := { cls := .none, data := .fields #[.int 3 0, .int 0 0, .ref 20, .int 19 0, .int 0 0, .ref 27, .int 29 0, .int 0 0, .ref 34, .int 45 0, .int 0 0, .ref 41, .int 54 0, .int 0 0, .ref 48, .int 65 0, .int 0 0, .ref 55, .int 77 0, .int 0 0, .ref 62, .int 90 0, .int 0 0, .ref 69] }
noncomputable def o60 (P : Params) (n a : Nat) : Obj :=
  if a = 3 then dO (kO P 3) n else if a < 11 then (boot_heap P).objs.toList.getD a default else if a = 11 then { cls := .type "tuple", data := .seq #[] } else if a = 12 then tab60 else if a = 13 then o13 else if a = 14 then o14
  else if a = 71 then kO P 71 else if a = 72 then partO (kO P 71) 17 17 else if a = 73 then partO (kO P 71) 34 14 else if a % 7 = 2 then { cls := .none, data := .fields #[] } else if a % 7 = 5 then cO (kO P (a + 2)) else kO P a
noncomputable def Sa (w : World) (os : OsState) : Shared :=
  ⟨⟨((boot_heap w.params).objs.toList ++ [{ cls := .type "tuple", data := .seq #[] }, { cls := .none, data := .fields #[] }, o13, o14]).toArray, {}⟩, #[], {}, 187, os⟩
noncomputable def S60 (w : World) (os : OsState) : Shared := ⟨⟨((List.range 71).map (o60 w.params 67)).toArray, {}⟩, #[], {}, 393, os⟩
noncomputable def S61 (w : World) (os : OsState) : Shared := ⟨⟨((List.range 74).map (o60 w.params 68)).toArray, {}⟩, #[], {}, 490, os⟩
set_option maxRecDepth 1000000 in
theorem pre9 : ∀ (w : World) (os : OsState), topGo treeTable p9 w 11 ann9 12 ⟨boot_heap w.params, Array.mk [], boot_drawn, boot_toks, os⟩ (topStub p9) = some (Sa w os, ⟨denote treeTable c9, c9, q0, [topFrame q0]⟩) := fun w os => by kernel_rfl
set_option maxRecDepth 1000000 in
theorem blk9 : ∀ (w : World) (os : OsState), segRun treeTable p9 w 11 ann9 1 1 (Sa w os) (blockOf b9 env9 c9 q0 [topFrame q0]) = some (.next, Sa w os, c9, q0) := fun w os => by kernel_rfl
set_option maxRecDepth 1000000 in
theorem seg9 : ∀ (w : World) (os : OsState), segRun treeTable p9 w 11 ann9 1 1000 (Sa w os) (piecesOf (b9.take 61) env9 c9 q0 [topFrame q0]) = some (.next, S60 w os, c9, q60) := fun w os => by kernel_rfl
set_option maxRecDepth 1000000 in
theorem dict_f : ∀ w : World, (fun os => segRun treeTable p9 (w.withFollow "special-get-raises" false) 11 ann9 1 1000 (S60 (w.withFollow "special-get-raises" false) os) (piecesOf ((b9.drop 61).take 1) env9 c9 q60 [topFrame q0])) = fun os => some (.next, S61 (w.withFollow "special-get-raises" false) os, c9, q61) := fun w => by kernel_rfl
set_option maxRecDepth 1000000 in
theorem dict_t : ∀ w : World, (fun os => segRun treeTable p9 (w.withFollow "special-get-raises" true) 11 ann9 1 1000 (S60 (w.withFollow "special-get-raises" true) os) (piecesOf ((b9.drop 61).take 1) env9 c9 q60 [topFrame q0])) = fun os => some (.next, S61 (w.withFollow "special-get-raises" true) os, c9, q61) := fun w => by kernel_rfl
theorem dict9 : ∀ w : World, (fun os => segRun treeTable p9 w 11 ann9 1 1000 (S60 w os) (piecesOf ((b9.drop 61).take 1) env9 c9 q60 [topFrame q0])) = fun os => some (.next, S61 w os, c9, q61) := byRow2 "special-get-raises" dict_f dict_t
/-- what is asked of the state at the end -/
noncomputable def ask9 (w : World) (s₁ : Shared) :=
  (match staticsOk (importedModules p9.main.body) (boot_heap w.params) s₁.heap && namesBound p9 s₁.heap && gensDone s₁ && laidKept (boot_heap w.params) s₁.heap with | true => some s₁ | false => none).map fun s => (openSeen view9 loose9 (importedModules p9.main.body) Xt9 true s, Hook.obs H9 s)
set_option maxRecDepth 1000000 in
theorem end_ok : ∀ w : World, (fun os => (topRun treeTable p9 w 11 ann9 1000 (S61 w os) (restOf (b9.drop 62) env9 c9 q61 [topFrame q0])).bind (ask9 w)) = fun _ => some (openGood view9 loose9, Hook.val H9 w) := fun w => by kernel_rfl
theorem size9 : ∀ w : World, ((boot_heap w.params).isNs mainGlobals && (Array.mk [] : Array GenState).size == 0, (boot_heap w.params).objs.size, (boot_heap w.params).nsMap mainGlobals "__annotations__") = (true, 11, ann9) := fun w => by kernel_rfl
theorem run9 {w : World} {os : OsState} {r : Shared} (k : topRun treeTable p9 w 11 ann9 1000 (S61 w os) (restOf (b9.drop 62) env9 c9 q61 [topFrame q0]) = some r) :
    topRun treeTable p9 w 11 ann9 4120 ⟨boot_heap w.params, Array.mk [], boot_drawn, boot_toks, os⟩ (topStub p9) = some r := by
  have h0 := piece_app (congrFun (dict9 w) os) k
  rw [show b9.drop 62 = (b9.drop 61).drop 1 by rw [List.drop_drop], List.take_append_drop] at h0
  have h1 := piece_app (seg9 w os) h0
  rw [List.take_append_drop] at h1
  have h2 := go_top (pre9 w os) (piece_block (blk9 w os) h1)
  exact topRun_mono 1107 _ _ _ _ h2
theorem top9 (w : World) (os : OsState) : (topFrom treeTable p9 w 4120 ⟨boot_heap w.params, Array.mk [], boot_drawn, boot_toks, os⟩).map (fun s => (openSeen view9 loose9 (importedModules p9.main.body) Xt9 true s, Hook.obs H9 s)) = some (openGood view9 loose9, Hook.val H9 w) := by
  obtain ⟨s₁, e1, e2⟩ := Option.bind_eq_some_iff.mp (congrFun (end_ok w) os)
  have r := run9 e1
  obtain ⟨z1, z2, z3⟩ : _ ∧ _ ∧ _ := by simpa only [Prod.mk.injEq] using size9 w
  unfold topFrom
  dsimp only
  rw [z1, z2, z3, r]
  exact e2
theorem left9 : LeftO PySem.Challenge.rw_rs0186_01.row.prog view9 loose9 Xt9 (Hook.obs H9) (Hook.val H9) 4120 := left_boot opening9 fun w => funext fun os => top9 w os
theorem prom9 : PySem.Challenge.rw_rs0186_01.row.toRowW.promised := by w_witness2
theorem ok9 : (chainsOk view9 && opensWell PySem.Challenge.rw_rs0186_01.row.prog && (frees PySem.Challenge.rw_rs0186_01.row.toRowW && PySem.Challenge.rw_rs0186_01.row.toRowW.within.isEmpty)) = true := by kernel_rfl
theorem bare9 : PySem.Challenge.rw_rs0186_01.row.prog.bare := ⟨rfl, rfl, rfl, rfl, rfl, by decide +kernel⟩
end Mine
end STop2
section SL1
open PySem PySem.W PyProof.Rows PySem.Calls PySem.Spec
namespace Mine
section
variable {prog : Program} {w : World} {A : Around} {h₀ : Heap} {L : Addr} {m : Str → Option Value} {env : Env} {elt : Expr} {x : Str} {scope : Scope} {cl : List (Str × Addr)} {s : Shared} {S : List (Addr × Obj) → Prop} {P : Nat → Value → Prop} {Fin : List Value → List (Addr × Obj) → Prop} {news : List (Addr × Obj)}
/-- a comprehension by what holds of its first i values -/
theorem comp_inv {n : Nat} (J : Nat → List Value → List (Addr × Obj) → Prop) (h0 : J 0 [] news)
    (turn : ∀ i ys nw v I oI C oC D m₂ h tk (E' : Value → Shared → Prop), i < n → J i ys nw → P i v → LCg.NsObj oC m₂ → m₂ x = some v → Fr h₀ L h m → News h₀ L h ((I, oI) :: (C, oC) :: (D, LCg.lst ys) :: nw) → LCg.Off3 I C D nw → ((@Ne Nat I C) ∧ (@Ne Nat I D) ∧ (@Ne Nat C D)) →
      wpAny (model prog w) A (eval elt (compEnvC scope cl C env)) (LCg.CompEnd h₀ L m { s with heap := h, toks := tk } I oI C oC D (LCg.lst ys) S (fun y news' => J (i + 1) (ys ++ [y]) news')) E' { s with heap := h, toks := tk })
    (fin : ∀ ys nw, J n ys nw → Fin ys nw) : LCg.CompRest prog w A h₀ L m env elt x scope cl s S P Fin n 0 [] news := by
  have key : ∀ (j i : Nat) (ys : List Value) (nw : List (Addr × Obj)), i + j = n → J i ys nw → LCg.CompRest prog w A h₀ L m env elt x scope cl s S P Fin j i ys nw := by
    intro j
    induction j with
    | zero =>
      intro i ys nw hi hJ
      have e : i = n := by omega
      subst e
      exact LCg.CompRest.zero (fin ys nw hJ)
    | succ j ih =>
      intro i ys nw hi hJ
      refine LCg.CompRest.succ ?_
      intro v I oI C oC D m₂ h tk E' hv hC hx F N off ne
      refine wpAny_mono (turn i ys nw v I oI C oC D m₂ h tk E' (by omega) hJ hv hC hx F N off ne) (fun y s₂ hq => ?_) fun _ _ e => e
      obtain ⟨h', tk', nw', e, F', N', off', hS, hJ'⟩ := hq
      exact ⟨h', tk', nw', e, F', N', off', hS, ih (i + 1) _ _ (by lia) hJ'⟩
  exact key n 0 [] news (by lia) h0
end
theorem pow_mega {prog : Program} {w : World} {A : Around} {E : Value → Shared → Prop} {s : Shared} {t u : Tok} {Q : Value → Shared → Prop} (h : Q (.int 1000000 s.toks) { s with toks := s.toks + 1 }) :
    wpAny (model prog w) A (binaryOp .Pow (.int 10 t) (.int 6 u)) Q E s :=
  pow_int_small (by decide) (by decide) (by decide) (by rw [show (10 : Int) ^ Int.toNat 6 = 1000000 from by decide]; exact h)
theorem sum_le {l : List Int} (h : ∀ v ∈ l, 0 ≤ v ∧ v < 1000000) : 0 ≤ l.sum ∧ l.sum ≤ 1000000 * l.length := by
  induction l with
  | nil => simp
  | cons a l ih =>
    have h1 := h a (.head _)
    have h2 := ih fun v hv => h v (.tail _ hv)
    rw [List.sum_cons, List.length_cons]
    omega
theorem first_le {i : Nat} (h : i < 5) : 0 ≤ ([163, 731, 3, 50, 1900] : List Int).getD (0 + (i : Int)).toNat 0 ∧ ([163, 731, 3, 50, 1900] : List Int).getD (0 + (i : Int)).toNat 0 ≤ 1900 := by
  have : i = 0 ∨ i = 1 ∨ i = 2 ∨ i = 3 ∨ i = 4 := by lia
  rcases this with rfl | rfl | rfl | rfl | rfl <;> decide
theorem fmod_mega (a : Int) : 0 ≤ a.fmod 1000000 ∧ a.fmod 1000000 < 1000000 := by
  rw [Int.fmod_eq_emod_of_nonneg _ (by decide)]
  exact ⟨Int.emod_nonneg a (by decide), Int.emod_lt_of_pos a (by decide)⟩
theorem small_snoc {ys : List Value} {l : List Int} {i : Nat} {a : Int} {t : Tok} (hl : l.length = i) (hI : IntsAre ys l) (hb : ∀ v ∈ l, 0 ≤ v ∧ v < 1000000) :
    ∃ l' : List Int, l'.length = i + 1 ∧ IntsAre (ys ++ [.int (a.fmod 1000000) t]) l' ∧ ∀ v ∈ l', 0 ≤ v ∧ v < 1000000 :=
  ⟨l ++ [a.fmod 1000000], by simp [hl], hI.append (.cons _ _ .nil), fun v hv => by
    rcases List.mem_append.mp hv with hv | hv
    · exact hb v hv
    · rw [List.mem_singleton.mp hv]; exact fmod_mega a⟩
theorem drawn_snoc {ys : List Value} {l l2 : List Int} {i : Nat} {t : Tok} (hl : l.length = i) (hI : IntsAre ys l) (hb : ∀ v ∈ l, v.natAbs ≤ 100000000) (hi : i < 5) (hl2 : l2.length ≤ 63) (hb2 : ∀ v ∈ l2, 0 ≤ v ∧ v < 1000000) :
    ∃ l' : List Int, l'.length = i + 1 ∧ IntsAre (ys ++ [.int (([163, 731, 3, 50, 1900] : List Int).getD (0 + (i : Int)).toNat 0 + l2.sum) t]) l' ∧ ∀ v ∈ l', v.natAbs ≤ 100000000 :=
  ⟨l ++ [_], by simp [hl], hI.append (.cons _ _ .nil), fun v hv => by
    rcases List.mem_append.mp hv with hv | hv
    · exact hb v hv
    · rw [List.mem_singleton.mp hv]
      have h1 := first_le hi
      have h2 := sum_le hb2
      omega⟩
theorem ints_cons {G : Prop} {ys : List Value} {l : List Int} {n : Nat} (h : IntsAre ys l) (hl : l.length = n + 1) (k : ∀ d t ys' l', ys = .int d t :: ys' → l = d :: l' → IntsAre ys' l' → l'.length = n → G) : G := by
  cases h with
  | nil => cases hl
  | cons d t h => exact k d t _ _ rfl rfl h (Nat.succ.inj hl)
theorem ints_nil {ys : List Value} {l : List Int} (h : IntsAre ys l) (hl : l.length = 0) : ys = [] ∧ l = [] := by
  cases h with
  | nil => exact ⟨rfl, rfl⟩
  | cons d t h => cases hl
theorem ints_five {G : Prop} {ys : List Value} {l : List Int} (h : IntsAre ys l) (hl : l.length = 5) (k : ∀ d0 d1 d2 d3 d4 t0 t1 t2 t3 t4, ys = [.int d0 t0, .int d1 t1, .int d2 t2, .int d3 t3, .int d4 t4] → l = [d0, d1, d2, d3, d4] → G) : G :=
  ints_cons h hl fun d0 t0 _ _ e0 f0 h hl => ints_cons h hl fun d1 t1 _ _ e1 f1 h hl => ints_cons h hl fun d2 t2 _ _ e2 f2 h hl => ints_cons h hl fun d3 t3 _ _ e3 f3 h hl => ints_cons h hl fun d4 t4 _ _ e4 f4 h hl =>
    k d0 d1 d2 d3 d4 t0 t1 t2 t3 t4 (by rw [e0, e1, e2, e3, e4, (ints_nil h hl).1]) (by rw [f0, f1, f2, f3, f4, (ints_nil h hl).2])
theorem pick_at {vs : List Value} {ns : List Int} (h : IntsAre vs ns) {lo hi st : Option Int} {i : Nat} {v : Value} (e : (slicePick vs.toArray lo hi st)[i]? = some v) : ∃ a t, v = .int a t := by
  have := h.pick lo hi st
  rw [← Array.getElem?_toList] at e
  obtain ⟨k, t, hv, _⟩ := IntsAre.at this i v e
  exact ⟨k, t, hv⟩
theorem pick_len {vs : List Value} {ns : List Int} (h : IntsAre vs ns) (h63 : ¬ ((63 : Nat) : Int) < ns.length) (lo hi st : Option Int) : (slicePick vs.toArray lo hi st).size ≤ 63 := by
  have h1 := slicePick_size_le vs.toArray lo hi st
  have h2 : vs.toArray.size = ns.length := by rw [List.size_toArray]; exact h.length
  omega
end Mine
end SL1
section SL2
open PySem PySem.W PyProof.Rows PySem.Calls PySem.Spec
namespace Mine
noncomputable def GoodT (s₁ : Shared) (tabs : List (Addr × Addr)) (r : Result) (s' : Shared) : Prop :=
  r = .ok (.ret (.bool true)) ∧ (∀ b o, (ghostOf s₁.heap tabs).get? b = some o → s'.heap.get? b = some o) ∧ s'.os = s₁.os ∧ AllBare s'.gens ∧ GrownAll tabs s'.heap
theorem kn_postT {M : Model} {A : Around} {cd : Code} {s s₁ : Shared} {cw : ClaimW} {cl : Str → Option Addr} {mean : ExcName → Option Value} {args : List WData} {tabs : List (Addr × Addr)} (hT : TabsAt tabs s₁.heap) (hr : ∀ x, cw.raises args x = false)
    (hp : cw.post args (.bool true) args = true) (h : codeAny M A cd (GoodT s₁ tabs) s) : codeAny M A cd (GoodWG cw cl mean args s₁) s :=
  codeAny_mono h fun r s' ⟨hc, hk, hos, hg, hgr⟩ => by
    subst hc
    have keep : ∀ b o, b ∉ tabs.map (·.2) → s₁.heap.get? b = some o → s'.heap.get? b = some o := fun b o hb e => hk b o (ghost_ne e hb)
    have grown : ∀ b o, b ∈ tabs.map (·.2) → s₁.heap.get? b = some o → isCodeTable s₁.heap b ∧ o = tabObj #[] ∧ ∃ ps, s'.heap.get? b = some (tabObj ps) := fun b o hb e => by
      obtain ⟨q, hq, rfl⟩ := List.mem_map.mp hb
      have e2 := (hT q hq).2
      rw [e] at e2
      exact ⟨((hT q hq).1.tab (hT q hq).2).isCodeTable, Option.some.inj e2, hgr.get q hq⟩
    refine ⟨.inl ⟨.bool true, .bool true, [], rfl, hr, .bool _, hp, fun _ => ⟨.nil, fun a h => nomatch h⟩⟩, ⟨fun b o e => ?_, fun b o e => ?_⟩, hos, hg⟩
    · by_cases hb : b ∈ tabs.map (·.2)
      · obtain ⟨ht, rfl, ps, hP⟩ := grown b o hb e
        exact .inr (.inl ⟨ht, rfl, #[], ps, rfl, by rw [Array.empty_append]; exact hP⟩)
      · exact .inl (keep b o hb e)
    · by_cases hb : b ∈ tabs.map (·.2)
      · obtain ⟨_, _, ps, hP⟩ := grown b o hb e
        exact ⟨_, hP⟩
      · exact ⟨o, keep b o hb e⟩
end Mine
end SL2
section SL3
open PySem PySem.W PyProof.Rows PySem.Calls PySem.Spec
namespace Mine
/-- a list of deeds whose tuples stand in the ledger -/
noncomputable def DeedsIn (vs : List Value) (ds : List Deed) (tl : List (Addr × Obj)) : Prop :=
  vs.length = ds.length ∧ ∀ (i : Nat) (v : Value), vs[i]? = some v → ∃ (q : Addr) (o : Obj) (d : Deed), v = Value.ref q ∧ ds[i]? = some d ∧ (q, o) ∈ tl ∧ DeedAt d o
theorem deedsIn_nil {tl : List (Addr × Obj)} : DeedsIn [] [] tl := ⟨rfl, fun i v h => by simp at h⟩
theorem deedsIn_snoc {vs : List Value} {ds : List Deed} {tl : List (Addr × Obj)} {q : Addr} {o : Obj} {d : Deed} (h : DeedsIn vs ds tl) (ho : DeedAt d o) : DeedsIn (vs ++ [.ref q]) (ds ++ [d]) ((q, o) :: tl) := by
  refine ⟨by simp [h.1], fun i v hv => ?_⟩
  rcases Nat.lt_or_ge i vs.length with h1 | h1
  · rw [List.getElem?_append_left h1] at hv
    obtain ⟨q', o', d', e1, e2, e3, e4⟩ := h.2 i v hv
    exact ⟨q', o', d', e1, by rw [List.getElem?_append_left (by rw [← h.1]; exact h1)]; exact e2, .tail _ e3, e4⟩
  · rw [List.getElem?_append_right h1] at hv
    have : i - vs.length = 0 := by
      rcases Nat.eq_zero_or_pos (i - vs.length) with h2 | h2
      · exact h2
      · rw [List.getElem?_eq_none (by simp only [List.length_cons, List.length_nil]; omega)] at hv; cases hv
    rw [this] at hv
    cases hv
    exact ⟨q, o, d, rfl, by rw [List.getElem?_append_right (by rw [← h.1]; exact h1), ← h.1, this]; rfl, .head _, ho⟩
theorem deeds_cons {G : Prop} {vs : List Value} {D : Deed} {Ds : List Deed} {tl : List (Addr × Obj)} (h : DeedsIn vs (D :: Ds) tl) (k : ∀ q o vs', vs = .ref q :: vs' → (q, o) ∈ tl → DeedAt D o → DeedsIn vs' Ds tl → G) : G := by
  obtain ⟨hl, h⟩ := h
  cases vs with
  | nil => cases hl
  | cons v vs =>
    obtain ⟨q, o, d, rfl, e, m, a⟩ := h 0 v rfl
    cases e
    exact k q o vs rfl m a ⟨Nat.succ.inj hl, fun i v hv => h (i + 1) v hv⟩
theorem deeds_three {G : Prop} {vs : List Value} {D1 D2 D3 : Deed} {tl : List (Addr × Obj)} (h : DeedsIn vs [D1, D2, D3] tl)
    (k : ∀ q1 o1 q2 o2 q3 o3, vs = [.ref q1, .ref q2, .ref q3] → (q1, o1) ∈ tl → (q2, o2) ∈ tl → (q3, o3) ∈ tl → DeedAt D1 o1 → DeedAt D2 o2 → DeedAt D3 o3 → G) : G :=
  deeds_cons h fun q1 o1 _ e1 m1 a1 h => deeds_cons h fun q2 o2 _ e2 m2 a2 h => deeds_cons h fun q3 o3 vs e3 m3 a3 h =>
    k q1 o1 q2 o2 q3 o3 (by rw [e1, e2, e3, List.length_eq_zero_iff.mp h.1]) m1 m2 m3 a1 a2 a3
theorem drawn_take {d1 d2 d3 : Int} {t1 t2 t3 : Tok} {i : Nat} {v : Value} (h : ([.int d1 t1, .int d2 t2, .int d3 t3] : List Value)[i]? = some v) :
    ∃ d t, v = .int d t ∧ (([d1, d2, d3].take (i + 1)).map (drawD · 6)) = (([d1, d2, d3].take i).map (drawD · 6)) ++ [drawD d 6] := by
  match i, h with
  | 0, h => cases h; exact ⟨_, _, rfl, rfl⟩
  | 1, h => cases h; exact ⟨_, _, rfl, rfl⟩
  | 2, h => cases h; exact ⟨_, _, rfl, rfl⟩
theorem deeds_four {h₀ h : Heap} {L q0 q1 q2 q3 : Addr} {o0 o1 o2 o3 : Obj} {A B C D : Deed} {news : List (Addr × Obj)} (N : News h₀ L h news) (m0 : (q0, o0) ∈ news) (m1 : (q1, o1) ∈ news) (m2 : (q2, o2) ∈ news) (m3 : (q3, o3) ∈ news)
    (d0 : DeedAt A o0) (d1 : DeedAt B o1) (d2 : DeedAt C o2) (d3 : DeedAt D o3) : DeedsAt h [.ref q0, .ref q1, .ref q2, .ref q3] [A, B, C, D] := by
  refine ⟨rfl, fun i v hv => ?_⟩
  match i, hv with
  | 0, hv => cases hv; exact ⟨_, _, _, rfl, rfl, (N _ m0).1, d0⟩
  | 1, hv => cases hv; exact ⟨_, _, _, rfl, rfl, (N _ m1).1, d1⟩
  | 2, hv => cases hv; exact ⟨_, _, _, rfl, rfl, (N _ m2).1, d2⟩
  | 3, hv => cases hv; exact ⟨_, _, _, rfl, rfl, (N _ m3).1, d3⟩
/-- the four deeds of the law -/
noncomputable def ds9 (d0 d1 d2 d3 : Int) : List Deed := [drawD d0 3, drawD d1 6, drawD d2 6, drawD d3 6]
theorem ds9_drawn (d0 d1 d2 d3 : Int) : ∀ d ∈ ds9 d0 d1 d2 d3, DrawnD d := by
  simp only [ds9, List.forall_mem_cons]
  exact ⟨drawn_ok _ _ (.inl rfl), drawn_ok _ _ (.inr rfl), drawn_ok _ _ (.inr rfl), drawn_ok _ _ (.inr rfl), fun _ h => nomatch h⟩
theorem ds9_ok (d0 d1 d2 d3 : Int) : ∀ d ∈ ds9 d0 d1 d2 d3, OkD d := by
  simp only [ds9, List.forall_mem_cons]
  exact ⟨okD_of _ _ (.inl rfl), okD_of _ _ (.inr rfl), okD_of _ _ (.inr rfl), okD_of _ _ (.inr rfl), fun _ h => nomatch h⟩
/-- no table -/
noncomputable def NoTab (o : Obj) : Prop := ∀ fs, o.data ≠ .fields fs
theorem noTab_deed {d : Deed} {o : Obj} (h : DeedAt d o) : NoTab o := by
  obtain ⟨_, _, _, rfl⟩ := h
  intro fs e; cases e
theorem noTab_seq {c : Value} {d : Option Addr} {xs : Array Value} {n : Nat} {sl : Array (Option Value)} : NoTab { cls := c, dict := d, data := .seq xs n, slots := sl } := fun fs e => by cases e
theorem noTab_cell {o : Obj} {v : Option Value} (h : o.data = .cell v) : NoTab o := fun fs e => by rw [h] at e; cases e
theorem off_tab {h₀ h : Heap} {L a : Addr} {ps : Array Value} {news rest : List (Addr × Obj)} (N : News h₀ L h news) (hm : (a, tabObj ps) ∈ news) (hs : ∀ q ∈ rest, q ∈ news) (hn : ∀ q ∈ rest, NoTab q.2) : ∀ q ∈ rest, q.1 ∉ [(a, tabObj #[])].map (·.1) := by
  intro q hq hmem
  have e : q.1 = a := List.mem_singleton.mp hmem
  have h1 := (N q (hs q hq)).1
  have h2 := (N _ hm).1
  rw [e] at h1
  have h3 := Option.some.inj (h1.symm.trans h2)
  exact hn q hq _ (by rw [h3])
/-- no cell -/
noncomputable def NoCell (o : Obj) : Prop := ∀ v, o.data ≠ .cell v
theorem noCell_deed {d : Deed} {o : Obj} (h : DeedAt d o) : NoCell o := by
  obtain ⟨_, _, _, rfl⟩ := h
  intro fs e; cases e
theorem noCell_pair {d : Int × Int} {o : Obj} (h : PairAt d o) : NoCell o := by
  obtain ⟨_, _, rfl⟩ := h
  intro fs e; cases e
theorem noCell_seq {c : Value} {d : Option Addr} {xs : Array Value} {n : Nat} {sl : Array (Option Value)} : NoCell { cls := c, dict := d, data := .seq xs n, slots := sl } := fun fs e => by cases e
theorem noCell_fields {o : Obj} {fs : Array Value} (h : o.data = .fields fs) : NoCell o := fun v e => by rw [h] at e; cases e
theorem off_cell {h₀ h : Heap} {L c : Addr} {o : Obj} {v : Option Value} {news rest : List (Addr × Obj)} (N : News h₀ L h news) (hm : (c, o) ∈ news) (hd : o.data = .cell v) (hs : ∀ q ∈ rest, q ∈ news) (hn : ∀ q ∈ rest, NoCell q.2) : ∀ q ∈ rest, q.1 ≠ c := by
  intro q hq e
  have h1 := (N q (hs q hq)).1
  have h2 := (N _ hm).1
  rw [e] at h1
  have h3 := Option.some.inj (h1.symm.trans h2)
  exact hn q hq v (by rw [h3]; exact hd)
theorem kept_tab {h₀ h h' : Heap} {L a : Addr} {ps : Array Value} {news rest : List (Addr × Obj)} (N : News h₀ L h news) (K : Kept [(a, tabObj #[])] h h') (hm : (a, tabObj ps) ∈ news) (hs : ∀ q ∈ rest, q ∈ news) (hn : ∀ q ∈ rest, NoTab q.2) : News h₀ L h' rest :=
  News.rest (News.sub N hs) K (off_tab N hm hs hn)
theorem tups_cons {G : Prop} {vs : List Value} {p : Int × Int} {ps : List (Int × Int)} {tl : List (Addr × Obj)} (h : TupsAre vs (p :: ps) tl) (k : ∀ q o vs', vs = .ref q :: vs' → (q, o) ∈ tl → PairAt p o → TupsAre vs' ps tl → G) : G := by
  obtain ⟨hl, h⟩ := h
  cases vs with
  | nil => cases hl
  | cons v vs =>
    obtain ⟨q, o, d, rfl, e, m, a⟩ := h 0 v rfl
    cases e
    exact k q o vs rfl m a ⟨Nat.succ.inj hl, fun i v hv => h (i + 1) v hv⟩
theorem pairs_four {G : Prop} {dvs : List Value} {A B C D : Int × Int} {tl : List (Addr × Obj)} (h : TupsAre dvs [A, B, C, D] tl)
    (k : ∀ p1 o1 p2 o2 p3 o3 p4 o4, dvs = [.ref p1, .ref p2, .ref p3, .ref p4] → (p1, o1) ∈ tl → (p2, o2) ∈ tl → (p3, o3) ∈ tl → (p4, o4) ∈ tl → PairAt A o1 → PairAt B o2 → PairAt C o3 → PairAt D o4 → G) : G :=
  tups_cons h fun q1 o1 _ e1 m1 a1 h => tups_cons h fun q2 o2 _ e2 m2 a2 h => tups_cons h fun q3 o3 _ e3 m3 a3 h => tups_cons h fun q4 o4 vs e4 m4 a4 h =>
    k q1 o1 q2 o2 q3 o3 q4 o4 (by rw [e1, e2, e3, e4, List.length_eq_zero_iff.mp h.1]) m1 m2 m3 m4 a1 a2 a3 a4
theorem pairsAt_four {h₀ h : Heap} {L q0 q1 q2 q3 : Addr} {o0 o1 o2 o3 : Obj} {A B C D : Int × Int} {news : List (Addr × Obj)} (N : News h₀ L h news) (m0 : (q0, o0) ∈ news) (m1 : (q1, o1) ∈ news) (m2 : (q2, o2) ∈ news) (m3 : (q3, o3) ∈ news)
    (d0 : PairAt A o0) (d1 : PairAt B o1) (d2 : PairAt C o2) (d3 : PairAt D o3) : PairsAt h [.ref q0, .ref q1, .ref q2, .ref q3] [A, B, C, D] := by
  refine ⟨rfl, fun i v hv => ?_⟩
  match i, hv with
  | 0, hv => cases hv; exact ⟨_, _, _, rfl, rfl, (N _ m0).1, d0⟩
  | 1, hv => cases hv; exact ⟨_, _, _, rfl, rfl, (N _ m1).1, d1⟩
  | 2, hv => cases hv; exact ⟨_, _, _, rfl, rfl, (N _ m2).1, d2⟩
  | 3, hv => cases hv; exact ⟨_, _, _, rfl, rfl, (N _ m3).1, d3⟩
/-- the first deed has an amount -/
theorem syms_num (d0 d1 d2 d3 : Int) : ∃ v ∈ symsOf (ds9 d0 d1 d2 d3), (256 : Int) ≤ v := by
  have keep : ∀ (k a : Int) (ss : List Int), (∃ v ∈ ss, (256 : Int) ≤ v) → ∃ v ∈ wrapK k a ss, (256 : Int) ≤ v := by
    rintro k a ss ⟨v, hv, h⟩
    refine ⟨v, ?_, h⟩
    unfold wrapK
    (repeat' split) <;> simp [hv]
  have h0 := ds9_ok d0 d1 d2 d3 _ (.head _)
  have k0 : (drawD d0 3).kind = 0 ∨ (drawD d0 3).kind = 1 ∨ (drawD d0 3).kind = 2 := by
    show d0.fmod 3 = 0 ∨ d0.fmod 3 = 1 ∨ d0.fmod 3 = 2
    rw [Int.fmod_eq_emod_of_nonneg _ (by decide)]; lia
  have first : ∃ v ∈ wrapK (drawD d0 3).kind (drawD d0 3).amount [1], (256 : Int) ≤ v := by
    refine ⟨256 + (drawD d0 3).amount, ?_, by have := h0.2.2.2.2.1; omega⟩
    unfold wrapK
    rw [if_neg (by omega), if_neg (by omega)]
    simp
  exact keep _ _ _ (keep _ _ _ (keep _ _ _ first))
theorem side_ok {S b : Int} (hS : S = 1 ∨ S = -1) : IntMulOk S b := by
  rcases hS with rfl | rfl <;> exact IntMulOk.of_left (by decide)
theorem noTab_pair {d : Int × Int} {o : Obj} (h : PairAt d o) : NoTab o := by
  obtain ⟨_, _, rfl⟩ := h
  intro fs e; cases e
theorem rest_in {N Z told : Int} (hZ : 0 < Z) (h : N.fdiv Z = told) : 0 ≤ N - told * Z ∧ N - told * Z < Z := by
  rw [Int.fdiv_eq_ediv_of_nonneg _ (Int.le_of_lt hZ)] at h
  have e := Int.mul_ediv_add_emod N Z
  have r0 := Int.emod_nonneg N (Int.ne_of_gt hZ)
  have r1 := Int.emod_lt_of_pos N hZ
  rw [h, Int.mul_comm] at e
  omega
theorem spot_take {a0 a1 a2 a3 a4 : Int} {t0 t1 t2 t3 t4 : Tok} {i : Nat} {v : Value} (h : ([.int a0 t0, .int a1 t1, .int a2 t2, .int a3 t3, .int a4 t4] : List Value)[i]? = some v) :
    ∃ a t, v = .int a t ∧ a ∈ [a0, a1, a2, a3, a4] ∧ [a0, a1, a2, a3, a4].take (i + 1) = [a0, a1, a2, a3, a4].take i ++ [a] := by
  match i, h with
  | 0, h => cases h; exact ⟨_, _, rfl, by simp, rfl⟩
  | 1, h => cases h; exact ⟨_, _, rfl, by simp, rfl⟩
  | 2, h => cases h; exact ⟨_, _, rfl, by simp, rfl⟩
  | 3, h => cases h; exact ⟨_, _, rfl, by simp, rfl⟩
  | 4, h => cases h; exact ⟨_, _, rfl, by simp, rfl⟩
/-- all deeds done, as the law's reader has them -/
noncomputable abbrev done9 (d0 d1 d2 d3 : Int) (v : Int) : Int := doneAll ((ds9 d0 d1 d2 d3).map readD) v
theorem read9_ok (d0 d1 d2 d3 : Int) : ∀ d ∈ (ds9 d0 d1 d2 d3).map readD, OkDeed d := fun d hd => by
  obtain ⟨e, he, rfl⟩ := List.mem_map.mp hd
  exact okDeed_read (ds9_ok d0 d1 d2 d3 e he)
theorem eq_ints_true {prog : Program} {w : World} {A : Around} {E : Value → Shared → Prop} {s : Shared} {a b : Addr} {vs us : List Value} {ns : List Int} {Q : Value → Shared → Prop} (hl : s.heap.IsList a vs.toArray) (hi : IntsAre vs ns) (hl' : s.heap.IsList b us.toArray) (hi' : IntsAre us ns) (hu : A.units + 64 < cLine)
    (h : Q (.bool true) s) : wpAny (model prog w) A (compareOp .Eq (.ref a) (.ref b)) Q E s :=
  eq_intsK hl hi hl' hi' hu (by rw [decide_eq_true (rfl : ns = ns)]; exact h)
theorem ints_lit5 {a0 a1 a2 a3 a4 : Int} {t0 t1 t2 t3 t4 : Tok} : IntsAre [.int a0 t0, .int a1 t1, .int a2 t2, .int a3 t3, .int a4 t4] [a0, a1, a2, a3, a4] := .cons _ _ (.cons _ _ (.cons _ _ (.cons _ _ (.cons _ _ .nil))))
theorem mod4001 (a : Int) : 0 ≤ a.fmod 4001 ∧ a.fmod 4001 < 4001 := by
  rw [Int.fmod_eq_emod_of_nonneg _ (by decide)]
  exact ⟨Int.emod_nonneg a (by decide), Int.emod_lt_of_pos a (by decide)⟩
theorem side_mul {S y B : Int} (hS : S = 1 ∨ S = -1) (h0 : -B ≤ y) (h1 : y ≤ B) : -B ≤ S * y ∧ S * y ≤ B := by
  rcases hS with rfl | rfl
  · rw [Int.one_mul]; exact ⟨h0, h1⟩
  · rw [Int.neg_mul, Int.one_mul]; lia
theorem render_len : ∀ ss : List Int, (renderC ss).length ≤ 2 * ss.length
  | [] => by simp [renderC]
  | v :: r => by
    have h1 := render_len r
    have h2 : (tokC v).length ≤ 2 := by unfold tokC; (repeat' split) <;> simp
    show (tokC v ++ renderC r).length ≤ _
    rw [List.length_append, List.length_cons]
    lia
/-- `[0] * len(slips)` -/
theorem mul_zeros {prog : Program} {w : World} {A : Around} {E : Value → Shared → Prop} {s : Shared} {h₀ : Heap} {L l : Addr} {m : Str → Option Value} {news : List (Addr × Obj)} {zs : List Value} {k : Nat} {t u : Tok} {Q : Value → Shared → Prop}
    (Fm : Fr h₀ L s.heap m) (N : News h₀ L s.heap news) (hm : (l, W.listOf [Value.int 0 t].toArray 0) ∈ news) (hz : IntsAre zs (List.replicate k 0)) (hk : k ≤ 4 * 5)
    (h : ∀ D h' us, Fr h₀ L h' m → News h₀ L h' ((D, W.listOf us.toArray 0) :: news) → IntsAre us (List.replicate k 0) → Q (.ref D) { s with heap := h' }) :
    wpAny (model prog w) A (binaryOp .Mult (.ref l) (.int (zs.toArray.size : Int) u)) Q E s := by
  have e : zs.toArray.size = k := by rw [List.size_toArray, hz.length, List.length_replicate]
  rw [e]
  refine KMa.mul Fm N (vs := [.int 0 t]) ⟨_, (N _ hm).1, rfl, _, rfl⟩ (by lia) (by omega) (by simp only [List.length_cons, List.length_nil]; lia) rfl fun D h' F' N' _ => h D h' _ F' N' ?_
  have := KM.ints_rep (IntsAre.cons 0 t .nil) ((k : Int)).toNat
  rw [krep_flat] at this
  exact this
theorem spots_ok {x sr sz S a : Int} (h0 : -2000 ≤ x) (h1 : x ≤ 2000) (h2 : -1336336 ≤ sr) (h3 : sr ≤ 1336336) (h4 : -1336336 ≤ sz) (h5 : sz ≤ 1336336) (hS : S = 1 ∨ S = -1) (ha : a ∈ [x, x - sr, x - sr + sz, x - sr - S, x - sr + sz + S]) : a.natAbs ≤ 100000000 := by
  have hS0 : -1 ≤ S ∧ S ≤ 1 := by omega
  clear hS
  have : -100000000 ≤ a ∧ a ≤ 100000000 := by
    simp only [List.mem_cons, List.not_mem_nil, or_false] at ha
    rcases ha with rfl | rfl | rfl | rfl | rfl <;> constructor <;> omega
  clear ha
  omega
end Mine
end SL3
section SLaw
open PySem PySem.W PyProof.Rows PySem.Calls PySem.Spec
namespace Mine
set_option hygiene false in
local macro_rules | `(tactic| walk_at "execs cons") => `(tactic| (k_here; (fail_if_success (with_reducible refine' isClean ?_)); (first | (refine' cleanT (G := s.gens) (D := s.drawn) (O := s.os) ?kcF ?kcH ?kcG ?kcD ?kcO ?_; (case kcF => k_asm); (case kcH => exact rfl); (case kcG => exact rfl); (case kcD => exact rfl); (case kcO => exact rfl)) | (refine' cleanT (G := s₁.gens) (D := s₁.drawn) (O := s₁.os) ?kcF ?kcH ?kcG ?kcD ?kcO ?_; (case kcF => k_asm); (case kcH => exact rfl); (case kcG => exact rfl); (case kcD => exact rfl); (case kcO => exact rfl)) | (refine' cleanT (G := gs) (D := s₁.drawn) (O := s₁.os) ?kcF ?kcH ?kcG ?kcD ?kcO ?_; (case kcF => k_asm); (case kcH => exact rfl); (case kcG => exact rfl); (case kcD => exact rfl); (case kcO => exact rfl))); intro tk; (try k_fold)))
set_option hygiene false in
local macro_rules | `(tactic| walk_at "mine clean") => `(tactic| ((first | (refine' cleanT (G := s₁.gens) (D := s₁.drawn) (O := s₁.os) ?kcF ?kcH ?kcG ?kcD ?kcO ?_; (case kcF => k_asm); (case kcH => exact rfl); (case kcG => exact rfl); (case kcD => exact rfl); (case kcO => exact rfl)) | (refine' cleanT (G := gs) (D := s₁.drawn) (O := s₁.os) ?kcF ?kcH ?kcG ?kcD ?kcO ?_; (case kcF => k_asm); (case kcH => exact rfl); (case kcG => exact rfl); (case kcD => exact rfl); (case kcO => exact rfl))); intro tkc; (try k_fold)))
noncomputable def MarkL (P : Prop) : Prop := P
theorem MarkL.mk {P : Prop} (h : MarkL P) : P := h
local macro_rules | `(tactic| walk_at "call ref") => `(tactic| (k_here; refine MarkL.mk ?_))
local macro_rules | `(tactic| walk_at "CompSrc") => `(tactic| (k_here; refine MarkL.mk ?_))
local macro_rules | `(tactic| walk_at "eval ListComp") => `(tactic| (k_here; refine MarkL.mk ?_))
local macro_rules | `(tactic| walk_at "exec Assign cons ListComp") => `(tactic| (k_here; refine MarkL.mk ?_))
local macro_rules | `(tactic| walk_at "compareOp Eq ref ref") => `(tactic| (k_here; refine MarkL.mk ?_))
local macro_rules | `(tactic| walk_at "call builtin:len") => `(tactic| (k_here; refine MarkL.mk ?_))
local macro_rules | `(tactic| walk_at "binaryOp Mod int int") => `(tactic| (k_here; refine MarkL.mk ?_))
local macro_rules | `(tactic| walk_at "binaryOp Mult int int") => `(tactic| (k_here; refine MarkL.mk ?_))
local macro_rules | `(tactic| walk_at "binaryOp Pow int int") => `(tactic| (k_here; refine MarkL.mk ?_))
theorem fillW : (hd.heap_1 = hd.heap_1 ∧ PySem.Challenge.rw_rs0186_01 = PySem.Challenge.rw_rs0186_01) := by
  k_fill
  w_top off
  exact ⟨rfl, rfl⟩
set_option maxRecDepth 100000 in
set_option maxHeartbeats 4000000 in
theorem t0 : PySem.Challenge.rw_rs0186_01.Holds := by
  refine holds_law said9 fun said => ?_
  refine holds_open (q := view9) (loose := loose9) (Xt := Xt9) (XP := XL view9 []) (Yf := Hook.obs H9) (Ya := Hook.val H9) (YP := Hook.says H9) (N := 4120) left9 (Hook.of H9) (Hook.keeps H9) (fun s e => xl_of s (Bool.and_eq_true_iff.mp e).1) XL.keeps (by rfl) (by rfl) (by rfl) (fun s e => recFacts_of (Bool.and_eq_true_iff.mp e).2) (by rfl) said ok9 bare9 prom9 ?hc
  w_on
  intro w s₀ s₁ mg mb G Y fa o pm cd doc dV kV ho hfn hcd hD hmg hg args vals as hpre hlay hrd hwl hlo
  have KX : (Mine.hd.heap_1 w.params).In s₁.heap := km_in_of Y
  have hT8 := km_tabs_of Y
  have X := (Ground.X G).1
  have V := (Ground.X G).2
  refine Ground.open G ?_
  intro T B D TE TW
  try (refine guard_noD D (by decide +kernel) ?_; clear D)
  km_lay T hmg ho hfn cd
  clear hmg
  wrow_args hpre hlay hrd hwl hlo
  all_goals (
    first | refine callC_kw (enter_call ?_) | refine enter_call ?_
    w_top on
    refine kn_postT hT9 (fun _ => rfl) ?hpost ?_
    rotate_left
    w_call any ho hfn hcd hD T F
    clear hfn
    kn_ghosts F T
    k_drop
    skip)
  w_top off
  case hpost => exact postW_of (by wrow_shape) (w_eq_bool (w_res rfl) w_lit) rfl
  (all_goals try k_fold)
  clear said X V G TE TW
  rename_i oSl oDe oFi oSc hSl hDe hFi hSc hX0 hXX hTT hKK hFF hC37 hNN hl0
  rename IntsAre _ _ => hScript
  rename ¬ _ < _ => h63
  show wpAny _ _ _ _ _ _
  k_fold
  k_steps
  show wpAny _ _ _ _ _ _
  refine LCg.Assign_ListComp_U (F₀ := by k_asm) (by rfl) (by with_unfolding_all rfl) (by with_unfolding_all rfl) (by decide) (by rfl) (by decide) (by rfl) (by rfl) (by rfl) ?_
  k_steps
  show LCg.CompSrc _ _ _ _ _ _ _ _ _ _ _ _ _ _
  refine LCg.CompSrc.range (by rfl) (by k_asm) (by k_asm) (by assumption) (by first | decide | rfl) (by first | rfl | decide) (by first | size_fits | exact Nat.le_of_ble_eq_true rfl) ?_
  intro g'
  refine comp_inv (n := 5) (fun i ys nw => nw = _ ∧ ∃ l : List Int, l.length = i ∧ IntsAre ys l ∧ ∀ v ∈ l, v.natAbs ≤ 100000000) ⟨rfl, [], rfl, .nil, fun _ h => nomatch h⟩ ?turn ?fin
  case turn =>
    intro i ys nw v I oI C oC D m₂ h tk E' hi hJ0 hv hC hx F N off ne
    refine hideG fun Gl kG => ?_
    obtain ⟨rfl, l, hl, hI, hb⟩ := hJ0
    obtain ⟨t, rfl⟩ := hv
    have off0 := off
    simp only [LCg.Off3, and_true] at off
    refine kG ?_
    clear kG Gl
    try (show wpAny _ _ _ _ _ _; walk_at "mine clean")
    k_steps
    show wpAny _ _ _ _ _ _
    refine LCg.ListComp_U (F₀ := by k_asm) (by rfl) (by decide) (by rfl) (by decide) (by rfl) ?_
    k_steps
    show LCg.CompSrc _ _ _ _ _ _ _ _ _ _ _ _ _ _
    have hpl := pick_len hScript h63 (some (0 + (i : Int))) (some 63) (some 5)
    refine LCg.CompSrc.ledger (by rfl) (by k_asm) (by k_asm) (by k_mem) (Nat.le_trans hpl (by decide)) ?_
    intro g2
    refine comp_inv (fun i ys nw => nw = _ ∧ ∃ l : List Int, l.length = i ∧ IntsAre ys l ∧ ∀ v ∈ l, 0 ≤ v ∧ v < 1000000) ⟨rfl, [], rfl, .nil, fun _ h => nomatch h⟩ ?turn2 ?fin2
    case turn2 =>
      intro i2 ys2 nw2 v2 I2 oI2 C2 oC2 D2 m3 h3 tk3 E2 hi2 hJ2 hv2 hC2 hx2 F2 N2 off2 ne2
      refine hideG fun Gl kG => ?_
      obtain ⟨rfl, l2, hl2, hI2, hb2⟩ := hJ2
      have off3 := off2
      simp only [LCg.Off3, and_true] at off2
      obtain ⟨a2, t2, rfl⟩ := pick_at hScript hv2
      clear hv2
      refine kG ?_
      clear kG Gl
      try (show wpAny _ _ _ _ _ _; walk_at "mine clean")
      k_steps
      show wpAny _ _ _ _ _ _
      refine pow_mega ?_
      show wpAny _ _ _ _ _ _
      refine mod_int' (by decide) ?_
      exact LCg.CompEnd.intro F2 N2 _ (fun p hp => hp) off3 (.inr ⟨_, .head _, rfl, _, rfl⟩) ⟨rfl, small_snoc hl2 hI2 hb2⟩
    case fin2 =>
      intro ys2 nw2 hJ2
      refine hideG fun Gl kG => ?_
      obtain ⟨rfl, l2, hl2, hI2, hb2⟩ := hJ2
      have hsum := sum_le hb2
      refine kG ?_
      clear kG Gl
      try (show wpAny _ _ _ _ _ _; walk_at "mine clean")
      k_steps
      rename News _ _ _ _ => N9
      refine LCg.CompEnd.intro (by assumption) N9 _ ?_ off0 True.intro ⟨rfl, drawn_snoc hl hI hb hi (hl2 ▸ hpl) hb2⟩
      exact fun q hq => .tail _ (.tail _ hq)
  case fin =>
    intro ys nw hJ0
    refine hideG fun Gl kG => ?_
    obtain ⟨rfl, l, hl, hI, hb⟩ := hJ0
    refine ints_five hI hl fun d0 d1 d2 d3 d4 t0 t1 t2 t3 t4 e9 e8 => ?_
    subst e9
    subst e8
    clear hI hb
    refine kG ?_
    clear kG Gl
    try (show wpAny _ _ _ _ _ _; walk_at "mine clean")
    k_steps
    show wpAny _ _ (binaryOp _ (Value.int d4 _) _) _ _ _
    refine mod_int' (by decide) ?_
    have hz := mod4001 d4
    generalize d4.fmod 4001 = z at hz ⊢
    obtain ⟨hz0, hz1⟩ := hz
    k_steps
    show wpAny _ _ _ _ _ _
    rename News _ _ _ _ => N9
    rename Fr _ _ _ _ => F9
    rename Below _ _ _ _ => B9
    rename Frag.In _ _ => X9
    rename Top _ _ _ _ _ _ => T9
    refine law_draw_con B9 F9 X9 T9 rfl rfl (by decide) (by decide) (.inl rfl) ?_
    intro q0 o0 h2 tk2 F2 N2 D0 K2 hq0
    refine hideG fun Gl kG => ?_
    have N3 := News.app N2 (News.kept N9 K2)
    simp only [List.cons_append, List.nil_append] at N3
    clear N9 F9 N2 K2
    refine kG ?_
    clear kG Gl
    try (show wpAny _ _ _ _ _ _; walk_at "mine clean")
    k_steps
    show wpAny _ _ _ _ _ _
    refine LCg.ListComp_U (F₀ := by k_asm) (by rfl) (by decide) (by rfl) (by decide) (by rfl) ?_
    k_steps
    show LCg.CompSrc _ _ _ _ _ _ _ _ _ _ _ _ _ _
    refine LCg.CompSrc.ledger (its := #[.int d1 t1, .int d2 t2, .int d3 t3]) (by rfl) (by k_asm) (by k_asm) (by k_mem) (show 3 ≤ sizeLine by decide) ?_
    intro g3
    refine comp_inv (n := 3) (fun i ys nw => ∃ dl, nw = dl ++ _ ∧ DeedsIn ys (([d1, d2, d3].take i).map (drawD · 6)) dl) ⟨[], rfl, deedsIn_nil⟩ ?turn3 ?fin3
    case turn3 =>
      intro i ys nw v I oI C oC D m₂ h tk E' hi hJ0 hv hC hx F N off ne
      refine hideG fun Gl kG => ?_
      obtain ⟨dl, rfl, hD⟩ := hJ0
      rw [← Array.getElem?_toList] at hv
      obtain ⟨d, t, rfl, hd⟩ := drawn_take hv
      refine kG ?_
      clear kG Gl
      try (show wpAny _ _ _ _ _ _; walk_at "mine clean")
      k_steps
      show wpAny _ _ _ _ _ _
      rename News _ _ _ _ => N9
      rename Fr _ _ _ _ => F9
      refine law_draw_con B9 F9 X9 T9 rfl rfl (by decide) (by decide) (.inr rfl) ?_
      intro q o h' tk' F2 N2 Dd K2 hq
      refine LCg.CompEnd.intro F2 (News.app N2 (News.kept N9 K2)) ((q, o) :: (dl ++ _)) ?_ ⟨⟨fun e => ne_new N9 hq _ (.head _) e.symm, fun e => ne_new N9 hq _ (.tail _ (.head _)) e.symm, fun e => ne_new N9 hq _ (.tail _ (.tail _ (.head _))) e.symm⟩, off⟩ (.inr ⟨_, .tail _ (List.mem_append_right _ (.head _)), rfl, _, rfl⟩) ⟨(q, o) :: dl, rfl, by rw [hd]; exact deedsIn_snoc hD Dd⟩
      intro p hp
      rcases List.mem_cons.mp hp with e | hp
      · exact e ▸ .tail _ (.head _)
      rcases List.mem_cons.mp hp with e | hp
      · exact e ▸ .tail _ (.tail _ (.head _))
      rcases List.mem_cons.mp hp with e | hp
      · exact e ▸ .tail _ (.tail _ (.tail _ (.head _)))
      rcases List.mem_cons.mp hp with e | hp
      · exact e ▸ .head _
      · exact .tail _ (.tail _ (.tail _ (.tail _ hp)))
    case fin3 =>
      intro ys nw hJ0
      refine hideG fun Gl kG => ?_
      obtain ⟨dl, rfl, hD⟩ := hJ0
      refine deeds_three hD fun q1 o1 q2 o2 q3 o3 e9 m1 m2 m3 D1 D2 D3 => ?_
      subst e9
      clear hD
      refine kG ?_
      clear kG Gl
      try (show wpAny _ _ _ _ _ _; walk_at "mine clean")
      k_steps
      show wpAny _ _ _ _ _ _
      rename News _ _ _ _ => N8
      have N4 := News.app (News.app (head1 N8) (News.sub N8 (ys := [(q1, o1), (q2, o2), (q3, o3)]) (by
        simp only [List.forall_mem_cons]
        exact ⟨.tail _ (List.mem_append_left _ m1), .tail _ (List.mem_append_left _ m2), .tail _ (List.mem_append_left _ m3), fun _ h => nomatch h⟩))) (News.sub N8 (fun q hq => List.Mem.tail _ (List.mem_append_right dl hq)))
      simp only [List.cons_append, List.nil_append] at N4
      clear N8 m1 m2 m3
      k_steps
      show wpAny _ _ _ _ _ _
      rename_i lm hA hl1 hB hF5 hN5
      rename News _ _ _ _ => N5
      rename Fr _ _ _ _ => F5
      have hdr := ds9_drawn d0 d1 d2 d3
      have hds := deeds_four (A := drawD d0 3) (B := drawD d1 6) (C := drawD d2 6) (D := drawD d3 6) N5 (q0 := q0) (o0 := o0) (q1 := q1) (o1 := o1) (q2 := q2) (o2 := o2) (q3 := q3) (o3 := o3) (by k_mem) (by k_mem) (by k_mem) (by k_mem) D0 D1 D2 D3
      refine law_write_con (vs := [.ref q0, .ref q1, .ref q2, .ref q3]) (nd := 0) (ds := ds9 d0 d1 d2 d3) B9 F5 X9 T9 rfl rfl (by decide) (by decide) (head1 N5) hds (show 4 ≤ 10 by decide) (fun d hd => ⟨(hdr d hd).1, (hdr d hd).2.1, (hdr d hd).2.2.1, (hdr d hd).2.2.2.1, (hdr d hd).2.2.2.2.2.2⟩) ?_
      intro tw h5 tk5 F6 K6 hwl
      refine hideG fun Gl kG => ?_
      have N6 := News.kept N5 K6
      clear N5 F5 K6 hds
      refine kG ?_
      clear kG Gl
      try (show wpAny _ _ _ _ _ _; walk_at "mine clean")
      k_steps
      show wpAny _ _ _ _ _ _
      rename News _ _ _ _ => N5
      rename Fr _ _ _ _ => F5
      refine strip_con B9 F5 X9 T9 rfl rfl (by decide) (by decide) (by omega) ?_
      intro tz h6 tk6 gs F6 K6 hgs
      refine hideG fun Gl kG => ?_
      have N6 := News.kept N5 K6
      replace hgs : AllBare gs := by
        rcases hgs with e | e
        · exact .of_eq (e.trans hg)
        · rw [e]; exact .push (.of_eq hg) rfl
      clear N5 F5 K6
      refine kG ?_
      clear kG Gl
      try (show wpAny _ _ _ _ _ _; walk_at "mine clean")
      k_steps
      show wpAny _ _ _ _ _ _
      rename News _ _ _ _ => N5
      rename Fr _ _ _ _ => F5
      have htx := strip_written hdr
      have hsl := (syms_length (ds9 d0 d1 d2 d3)).2
      have hdl : (ds9 d0 d1 d2 d3).length = 4 := rfl
      have hlen : (stripS (written (ds9 d0 d1 d2 d3))).length ≤ 400 := by
        have h1 := congrArg List.length htx
        have h2 := render_len (symsOf (ds9 d0 d1 d2 d3))
        rw [cps_length] at h1
        omega
      have C37 : CodeHd (ghostOf s₁.heap [(41, 37), (34, 30)]) 41 37 := by assumption
      have C30 : CodeHd (ghostOf s₁.heap [(41, 37), (34, 30)]) 34 30 := by assumption
      have hnt : ∀ q ∈ [(lm, lstObj [.ref q0, .ref q1, .ref q2, .ref q3] 0), (q0, o0), (q1, o1), (q2, o2), (q3, o3), (s₁.heap.objs.size + 1 + 1 + 1, oDe), (s₁.heap.objs.size + 1 + 1 + 1 + 1, oSl)], NoTab q.2 := by
        simp only [List.forall_mem_cons]
        exact ⟨noTab_seq, noTab_deed D0, noTab_deed D1, noTab_deed D2, noTab_deed D3, noTab_cell hDe, noTab_cell hSl, fun _ h => nomatch h⟩
      refine law_symbols_con (ss := symsOf (ds9 d0 d1 d2 d3)) B9 F5 X9 T9 rfl rfl (by decide) (by decide) (News.sub N5 (ys := [(37, tabObj #[])]) (by simp only [List.forall_mem_cons]; exact ⟨by k_mem, fun _ h => nomatch h⟩)) C37 hlen htx (symsOf_good hdr) (by omega) ?_
      intro qs vs ns ps ex h7 tk7 F6 N6 hI hTb hps K6
      refine hideG fun Gl kG => ?_
      have N7 := News.app N6 (News.app (kept_tab N5 K6 (by k_mem) (by simp only [List.forall_mem_cons]; exact ⟨by first | k_mem | exact .head _, by k_mem, by k_mem, by k_mem, by k_mem, by k_mem, by k_mem, fun _ h => nomatch h⟩) hnt)
        (News.rest (News.sub N5 (ys := [(30, tabObj #[])]) (by simp only [List.forall_mem_cons]; exact ⟨by k_mem, fun _ h => nomatch h⟩)) K6 (by intro q hq; rw [List.mem_singleton.mp hq]; decide)))
      rcases hTb with ⟨rfl, rfl⟩ | ⟨c7, oc7, vs7, t7, rfl, rfl, hd7, hv7⟩
      · exact absurd rfl (hps (syms_num d0 d1 d2 d3))
      have hT7 : TabIs 47 4 qD2I #[rawInt 47, rawInt 4, .ref c7] [(c7, oc7)] := .inr ⟨c7, oc7, vs7, t7, rfl, rfl, hd7, hv7⟩
      simp only [List.cons_append, List.nil_append] at N7
      clear N5 F5 N6 K6 hnt hps htx hlen hsl
      refine kG ?_
      clear kG Gl
      try (show wpAny _ _ _ _ _ _; walk_at "mine clean")
      k_steps
      show wpAny _ _ _ _ _ _
      rename News _ _ _ _ => N5
      rename Fr _ _ _ _ => F5
      refine law_deeds_con (ds := ds9 d0 d1 d2 d3) B9 F5 X9 T9 rfl rfl (by decide) (by decide) (head1 N5) hI (show 4 ≤ 10 by decide) (fun d hd => ⟨(hdr d hd).1, (hdr d hd).2.1, (hdr d hd).2.2.1, (hdr d hd).2.2.2.1⟩) ?_
      intro qd dvs ndd tl h8 tk8 F6 N6 hTu K6
      refine hideG fun Gl kG => ?_
      refine pairs_four hTu fun p1 r1 p2 r2 p3 r3 p4 r4 e9 m1 m2 m3 m4 e1 e2 e3 e4 => ?_
      subst e9
      have N7 := News.app (News.sub N6 (ys := [(qd, lstObj [.ref p1, .ref p2, .ref p3, .ref p4] ndd), (p1, r1), (p2, r2), (p3, r3), (p4, r4)]) (by simp only [List.forall_mem_cons]; exact ⟨.head _, .tail _ m1, .tail _ m2, .tail _ m3, .tail _ m4, fun _ h => nomatch h⟩)) (News.kept N5 K6)
      simp only [List.cons_append, List.nil_append] at N7
      clear N5 F5 N6 K6 m1 m2 m3 m4 hTu hI
      refine kG ?_
      clear kG Gl
      try (show wpAny _ _ _ _ _ _; walk_at "mine clean")
      k_steps
      show wpAny _ _ (storeName _ _ _) _ _ _
      rename News _ _ _ _ => N5
      rename Fr _ _ _ _ => F5
      have Ns := News.sub N5 (ys := [(s₁.heap.objs.size + 1 + 1 + 1, oDe), (qd, lstObj [.ref p1, .ref p2, .ref p3, .ref p4] ndd), (p1, r1), (p2, r2), (p3, r3), (p4, r4), (lm, lstObj [.ref q0, .ref q1, .ref q2, .ref q3] 0), (q0, o0), (q1, o1), (q2, o2), (q3, o3), (37, tabObj #[rawInt 47, rawInt 4, .ref c7]), (c7, oc7), (30, tabObj #[]), (s₁.heap.objs.size + 1 + 1 + 1 + 1, oSl)])
        (by simp only [List.forall_mem_cons]; exact ⟨by k_mem, by k_mem, by k_mem, by k_mem, by k_mem, by k_mem, by k_mem, by k_mem, by k_mem, by k_mem, by k_mem, by k_mem, by k_mem, by k_mem, by k_mem, fun _ h => nomatch h⟩)
      clear N5
      refine storeX_C F5 Ns (by rfl) (.head ?_) hDe ?_ (by rfl) (by rfl)
      · have hx := off_cell (rest := [(qd, lstObj [.ref p1, .ref p2, .ref p3, .ref p4] ndd), (p1, r1), (p2, r2), (p3, r3), (p4, r4), (lm, lstObj [.ref q0, .ref q1, .ref q2, .ref q3] 0), (q0, o0), (q1, o1), (q2, o2), (q3, o3), (37, tabObj #[rawInt 47, rawInt 4, .ref c7]), (c7, oc7), (30, tabObj #[])]) Ns (.head _) hDe (by simp only [List.forall_mem_cons]; exact ⟨by k_mem, by k_mem, by k_mem, by k_mem, by k_mem, by k_mem, by k_mem, by k_mem, by k_mem, by k_mem, by k_mem, by k_mem, by k_mem, fun _ h => nomatch h⟩)
          (by simp only [List.forall_mem_cons]; exact ⟨noCell_seq, noCell_pair e1, noCell_pair e2, noCell_pair e3, noCell_pair e4, noCell_seq, noCell_deed D0, noCell_deed D1, noCell_deed D2, noCell_deed D3, noCell_fields rfl, noCell_fields hd7, noCell_fields rfl, fun _ h => nomatch h⟩)
        simp only [List.forall_mem_cons] at hx ⊢
        obtain ⟨x1, x2, x3, x4, x5, x6, x7, x8, x9, x10, x11, x12, x13, -⟩ := hx
        exact ⟨x1, x2, x3, x4, x5, x6, x7, x8, x9, x10, x11, x12, x13, by k_ne, fun _ h => nomatch h⟩
      intro h9 oDe2 F6 N6 hDe2
      refine hideG fun Gl kG => ?_
      try dsimp only at N6
      clear F5 Ns
      refine kG ?_
      clear kG Gl
      try (show wpAny _ _ _ _ _ _; walk_at "mine clean")
      k_steps
      show wpAny _ _ _ _ _ _
      rename News _ _ _ _ => N5
      rename Fr _ _ _ _ => F5
      have hok := ds9_ok d0 d1 d2 d3
      have hdl : (ds9 d0 d1 d2 d3).length = 4 := rfl
      have hds := deeds_four (A := drawD d0 3) (B := drawD d1 6) (C := drawD d2 6) (D := drawD d3 6) N5 (q0 := q0) (o0 := o0) (q1 := q1) (o1 := o1) (q2 := q2) (o2 := o2) (q3 := q3) (o3 := o3) (by k_mem) (by k_mem) (by k_mem) (by k_mem) D0 D1 D2 D3
      refine law_whole_con (vs := [.ref q0, .ref q1, .ref q2, .ref q3]) (nd := 0) (ds := ds9 d0 d1 d2 d3) B9 F5 X9 T9 rfl rfl (by decide) (by decide) (News.sub N5 (by simp only [List.forall_mem_cons]; exact ⟨by k_mem, fun _ h => nomatch h⟩)) hds (show 4 ≤ 10 by decide) (fun d hd => ⟨(hdr d hd).1, (hdr d hd).2.1, (hdr d hd).2.2.1, (hdr d hd).2.2.2.1, fun h => ((hok d hd).2.2.2.1 h).2⟩) ?_
      intro qw tw1 tw2 tw3 h10 tk10 F6 N6 K6 hqw
      refine hideG fun Gl kG => ?_
      have N7 := News.app N6 (News.kept N5 K6)
      simp only [List.cons_append, List.nil_append] at N7
      clear N5 F5 N6 K6 hds hDe
      have hW := whole_ok (a := drawD d0 3) (b := drawD d1 6) (c := drawD d2 6) (d := drawD d3 6) hok
      change OkW (whole (ds9 d0 d1 d2 d3)) _ _ at hW
      generalize hwh : whole (ds9 d0 d1 d2 d3) = wh at *
      obtain ⟨S, P, Z⟩ := wh
      obtain ⟨hS, hZ0, hZ1, hP0, hP1⟩ := hW
      dsimp only at hS hZ0 hZ1 hP0 hP1
      refine kG ?_
      clear kG Gl
      try (show wpAny _ _ _ _ _ _; walk_at "mine clean")
      k_steps
      show wpAny _ _ (binaryOp _ (Value.int S _) (Value.int (z - 2000) _)) _ _ _
      refine mul_int ?_ (side_ok hS)
      have hx := side_mul (y := z - 2000) (B := 2001) hS (by omega) (by omega)
      generalize hsx : S * (z - 2000) = sx at hx ⊢
      obtain ⟨hx0, hx1⟩ := hx
      k_steps
      show wpAny _ _ _ _ _ _
      rename News _ _ _ _ => N5
      rename Fr _ _ _ _ => F5
      refine int_divmod_con (ps := #[]) (ps7 := #[rawInt 47, rawInt 4, .ref c7]) (ex := []) (ex7 := [(c7, oc7)]) B9 F5 X9 T9 rfl rfl (by decide) (by decide) (News.sub N5 (by simp only [List.cons_append, List.nil_append, List.forall_mem_cons]; exact ⟨by k_mem, by k_mem, by k_mem, fun _ h => nomatch h⟩)) (.inl ⟨rfl, rfl⟩) hT7 (by simp) C30 C37 trivial (by omega) (by omega) (by omega) ?_
      intro qv tv1 tv2 h11 tk11 ps ex F6 N6 hT0 hne0 K6 hqv heq
      refine hideG fun Gl kG => ?_
      clear heq
      have hnt : ∀ q ∈ [(s₁.heap.objs.size + 1 + 1 + 1, oDe2), (qd, lstObj [.ref p1, .ref p2, .ref p3, .ref p4] ndd), (p1, r1), (p2, r2), (p3, r3), (p4, r4), (s₁.heap.objs.size + 1 + 1 + 1 + 1, oSl)], NoTab q.2 := by
        simp only [List.forall_mem_cons]
        exact ⟨noTab_cell hDe2, noTab_seq, noTab_pair e1, noTab_pair e2, noTab_pair e3, noTab_pair e4, noTab_cell hSl, fun _ h => nomatch h⟩
      have N7 := News.app N6 (kept_tab N5 K6 (by k_mem) (by simp only [List.forall_mem_cons]; exact ⟨by k_mem, by k_mem, by k_mem, by k_mem, by k_mem, by k_mem, by k_mem, fun _ h => nomatch h⟩) hnt)
      rcases hT0 with ⟨rfl, rfl⟩ | ⟨c0, oc0, vs0, t0', rfl, rfl, hd0, hv0⟩
      · exact absurd rfl hne0
      have hT0 : TabIs 32 4 qI2D #[rawInt 32, rawInt 4, .ref c0] [(c0, oc0)] := .inr ⟨c0, oc0, vs0, t0', rfl, rfl, hd0, hv0⟩
      simp only [List.cons_append, List.nil_append] at N7
      clear N5 F5 N6 K6 hnt hne0
      generalize htold : (sx + P).fdiv Z = told at *
      refine kG ?_
      clear kG Gl
      try (show wpAny _ _ _ _ _ _; walk_at "mine clean")
      k_steps
      show wpAny _ _ (binaryOp _ (Value.int S _) (Value.int (sx + P - told * Z) _)) _ _ _
      refine mul_int ?_ (side_ok hS)
      have hr := rest_in hZ0 htold
      generalize hrst : sx + P - told * Z = rst at *
      obtain ⟨hr0, hr1⟩ := hr
      have hx := side_mul (y := rst) (B := 1336336) hS (by omega) (by omega)
      generalize hsr : S * rst = sr at hx ⊢
      obtain ⟨hsr0, hsr1⟩ := hx
      k_steps
      show wpAny _ _ (binaryOp _ (Value.int S _) (Value.int (Z - 1) _)) _ _ _
      refine mul_int ?_ (side_ok hS)
      have hx := side_mul (y := Z - 1) (B := 1336336) hS (by omega) (by omega)
      generalize hsz : S * (Z - 1) = sz at hx ⊢
      obtain ⟨hsz0, hsz1⟩ := hx
      k_steps
      rename_i hA lsp hB hl1 hC lsl hD hF hN hl2
      show wpAny _ _ (storeName _ _ _) _ _ _
      rename News _ _ _ _ => N5
      rename Fr _ _ _ _ => F5
      obtain ⟨u0, u1, u2, u3, u4, msp⟩ : ∃ u0 u1 u2 u3 u4, News (ghostOf s₁.heap [(41, 37), (34, 30)]) s₁.heap.objs.size _ [(lsp, lstObj [.int (z - 2000) u0, .int (z - 2000 - sr) u1, .int (z - 2000 - sr + sz) u2, .int (z - 2000 - sr - S) u3, .int (z - 2000 - sr + sz + S) u4] 0)] := ⟨_, _, _, _, _, News.sub N5 (by simp only [List.forall_mem_cons]; exact ⟨.tail _ (.head _), fun _ h => nomatch h⟩)⟩
      have Ns := News.app (News.sub N5 (ys := [(s₁.heap.objs.size + 1 + 1 + 1 + 1, oSl), (lsl, lstObj [] 0)]) (by simp only [List.forall_mem_cons]; exact ⟨by k_mem, .head _, fun _ h => nomatch h⟩)) (News.app msp (News.sub N5 (ys := [(37, tabObj #[rawInt 47, rawInt 4, .ref c7]), (30, tabObj #[rawInt 32, rawInt 4, .ref c0]), (c7, oc7), (c0, oc0), (s₁.heap.objs.size + 1 + 1 + 1, oDe2), (qd, lstObj [.ref p1, .ref p2, .ref p3, .ref p4] ndd), (p1, r1), (p2, r2), (p3, r3), (p4, r4)])
        (by simp only [List.forall_mem_cons]; exact ⟨by k_mem, by k_mem, by k_mem, by k_mem, by k_mem, by k_mem, by k_mem, by k_mem, by k_mem, by k_mem, fun _ h => nomatch h⟩)))
      simp only [List.cons_append, List.nil_append] at Ns
      have hlt : ∀ q ∈ [(37, tabObj #[rawInt 47, rawInt 4, .ref c7]), (30, tabObj #[rawInt 32, rawInt 4, .ref c0]), (c7, oc7), (c0, oc0), (s₁.heap.objs.size + 1 + 1 + 1, oDe2), (qd, lstObj [.ref p1, .ref p2, .ref p3, .ref p4] ndd), (p1, r1), (p2, r2), (p3, r3), (p4, r4)], q.1 < lsl := by
        simp only [List.forall_mem_cons]
        have z3 := hl2.2.2
        exact ⟨z3.1, z3.2.1, z3.2.2.1, z3.2.2.2.1, z3.2.2.2.2.1, z3.2.2.2.2.2.1, z3.2.2.2.2.2.2.1, z3.2.2.2.2.2.2.2.1, z3.2.2.2.2.2.2.2.2.1, z3.2.2.2.2.2.2.2.2.2.1, fun _ h => nomatch h⟩
      clear N5 msp
      refine storeX_C F5 Ns (by rfl) (.head ?_) hSl ?_ (by rfl) (by rfl)
      · have hx := off_cell (rest := [(lsl, lstObj [] 0), (lsp, lstObj [.int (z - 2000) u0, .int (z - 2000 - sr) u1, .int (z - 2000 - sr + sz) u2, .int (z - 2000 - sr - S) u3, .int (z - 2000 - sr + sz + S) u4] 0), (37, tabObj #[rawInt 47, rawInt 4, .ref c7]), (30, tabObj #[rawInt 32, rawInt 4, .ref c0]), (c7, oc7), (c0, oc0), (qd, lstObj [.ref p1, .ref p2, .ref p3, .ref p4] ndd), (p1, r1), (p2, r2), (p3, r3), (p4, r4)]) Ns (.head _) hSl (by simp only [List.forall_mem_cons]; exact ⟨by k_mem, by k_mem, by k_mem, by k_mem, by k_mem, by k_mem, by k_mem, by k_mem, by k_mem, by k_mem, by k_mem, fun _ h => nomatch h⟩)
          (by simp only [List.forall_mem_cons]; exact ⟨noCell_seq, noCell_seq, noCell_fields rfl, noCell_fields rfl, noCell_fields hd7, noCell_fields hd0, noCell_seq, noCell_pair e1, noCell_pair e2, noCell_pair e3, noCell_pair e4, fun _ h => nomatch h⟩)
        simp only [List.forall_mem_cons] at hx ⊢
        obtain ⟨x1, x2, x3, x4, x5, x6, x7, x8, x9, x10, x11, -⟩ := hx
        exact ⟨x1, x2, x3, x4, x5, x6, by k_ne, x7, x8, x9, x10, x11, fun _ h => nomatch h⟩
      intro h12 oSl2 F6 N6 hSl2
      refine hideG fun Gl kG => ?_
      try dsimp only at N6
      clear F5 Ns
      refine kG ?_
      clear kG Gl
      try (show wpAny _ _ _ _ _ _; walk_at "mine clean")
      k_steps
      show wpAny _ _ _ _ _ _
      rename News _ _ _ _ => N5
      rename Fr _ _ _ _ => F5
      have N6 := News.sub N5 (ys := [(lsl, lstObj [] 0), (s₁.heap.objs.size + 1 + 1 + 1 + 1, oSl2), (lsp, lstObj [.int (z - 2000) u0, .int (z - 2000 - sr) u1, .int (z - 2000 - sr + sz) u2, .int (z - 2000 - sr - S) u3, .int (z - 2000 - sr + sz + S) u4] 0), (37, tabObj #[rawInt 47, rawInt 4, .ref c7]), (30, tabObj #[rawInt 32, rawInt 4, .ref c0]), (c7, oc7), (c0, oc0), (s₁.heap.objs.size + 1 + 1 + 1, oDe2), (qd, lstObj [.ref p1, .ref p2, .ref p3, .ref p4] ndd), (p1, r1), (p2, r2), (p3, r3), (p4, r4)]) (by simp only [List.forall_mem_cons]; exact ⟨by k_mem, by k_mem, by k_mem, by k_mem, by k_mem, by k_mem, by k_mem, by k_mem, by k_mem, by k_mem, by k_mem, by k_mem, by k_mem, fun _ h => nomatch h⟩)
      clear N5
      have hbase : ∀ q ∈ [(s₁.heap.objs.size + 1 + 1 + 1 + 1, oSl2), (lsp, lstObj [.int (z - 2000) u0, .int (z - 2000 - sr) u1, .int (z - 2000 - sr + sz) u2, .int (z - 2000 - sr - S) u3, .int (z - 2000 - sr + sz + S) u4] 0), (37, tabObj #[rawInt 47, rawInt 4, .ref c7]), (30, tabObj #[rawInt 32, rawInt 4, .ref c0]), (c7, oc7), (c0, oc0), (s₁.heap.objs.size + 1 + 1 + 1, oDe2), (qd, lstObj [.ref p1, .ref p2, .ref p3, .ref p4] ndd), (p1, r1), (p2, r2), (p3, r3), (p4, r4)], q.1 ≠ lsl := by
        simp only [List.forall_mem_cons] at hlt ⊢
        obtain ⟨l1, l2, l3, l4, l5, l6, l7, l8, l9, l10, -⟩ := hlt
        exact ⟨by k_ne, by k_ne, by k_ne, by k_ne, by k_ne, by k_ne, by k_ne, by k_ne, by k_ne, by k_ne, by k_ne, by k_ne, fun _ h => nomatch h⟩
      refine LCg.Assign_ListComp_U (F₀ := by k_asm) (by rfl) (by with_unfolding_all rfl) (by with_unfolding_all rfl) (by decide) (by rfl) (by decide) (by rfl) (by rfl) (by rfl) ?_
      k_steps
      show LCg.CompSrc _ _ _ _ _ _ _ _ _ _ _ _ _ _
      refine LCg.CompSrc.ledger (its := #[.int (z - 2000) u0, .int (z - 2000 - sr) u1, .int (z - 2000 - sr + sz) u2, .int (z - 2000 - sr - S) u3, .int (z - 2000 - sr + sz + S) u4]) (by rfl) (by k_asm) (by k_asm) (by k_mem) (show 5 ≤ sizeLine by decide) ?_
      intro g5
      refine comp_inv (n := 5) (fun i ys nw => ∃ zs ns k, nw = (lsl, lstObj zs ns) :: [(s₁.heap.objs.size + 1 + 1 + 1 + 1, oSl2), (lsp, lstObj [.int (z - 2000) u0, .int (z - 2000 - sr) u1, .int (z - 2000 - sr + sz) u2, .int (z - 2000 - sr - S) u3, .int (z - 2000 - sr + sz + S) u4] 0), (37, tabObj #[rawInt 47, rawInt 4, .ref c7]), (30, tabObj #[rawInt 32, rawInt 4, .ref c0]), (c7, oc7), (c0, oc0), (s₁.heap.objs.size + 1 + 1 + 1, oDe2), (qd, lstObj [.ref p1, .ref p2, .ref p3, .ref p4] ndd), (p1, r1), (p2, r2), (p3, r3), (p4, r4)] ∧ IntsAre zs (List.replicate k 0) ∧ k ≤ 4 * i ∧ IntsAre ys (([z - 2000, z - 2000 - sr, z - 2000 - sr + sz, z - 2000 - sr - S, z - 2000 - sr + sz + S].take i).map (done9 d0 d1 d2 d3))) ⟨[], 0, 0, rfl, .nil, Nat.le_refl _, .nil⟩ ?turn5 ?fin5
      case turn5 =>
        intro i ys nw v I oI C oC D m₂ h tk E' hi hJ0 hv hC hx F N off ne
        refine hideG fun Gl kG => ?_
        obtain ⟨zs, ns, k, rfl, hzs, hk, hys⟩ := hJ0
        rw [← Array.getElem?_toList] at hv
        obtain ⟨a, t, rfl, ha, htk⟩ := spot_take hv
        have off0 := off
        have hab : a.natAbs ≤ 100000000 := spots_ok (by omega) (by omega) hsr0 hsr1 hsz0 hsz1 hS ha
        clear ha hv
        simp only [LCg.Off3, and_true] at off
        refine kG ?_
        clear kG Gl
        try (show wpAny _ _ _ _ _ _; walk_at "mine clean")
        k_steps
        show wpAny _ _ _ _ _ _
        have hpa := pairsAt_four N (by k_mem) (by k_mem) (by k_mem) (by k_mem) e1 e2 e3 e4
        refine law_done_con (vs := [.ref p1, .ref p2, .ref p3, .ref p4]) (nd := ndd) (ds := (ds9 d0 d1 d2 d3).map readD) (k0 := k) (c7 := c7) (c0 := c0) B9 F X9 T9 rfl rfl (by decide) (by decide) (News.sub N (by simp only [List.forall_mem_cons]; exact ⟨by k_mem, by k_mem, by k_mem, by k_mem, by k_mem, by k_mem, fun _ h => nomatch h⟩)) hT7 hT0 C30 C37 hpa (show 4 ≤ 10 by decide) (read9_ok d0 d1 d2 d3) hab hzs (by omega)
          (by simp only [List.forall_mem_cons] at hlt ⊢; exact ⟨hlt.2.2.2.2.2.1, hlt.1, hlt.2.2.1, hlt.2.1, hlt.2.2.2.1, fun _ h => nomatch h⟩) ?_
        intro t' zs' ns' k' h' tk' F2 N2 hz' hk' K2
        have h4 : ((ds9 d0 d1 d2 d3).map readD).length = 4 := rfl
        refine LCg.CompEnd.intro F2 (News.app (News.sub N2 (ys := [(lsl, lstObj zs' ns')]) (by simp only [List.forall_mem_cons]; exact ⟨by k_mem, fun _ h => nomatch h⟩)) (News.rest (News.sub N (ys := (I, oI) :: (C, oC) :: (D, LCg.lst ys) :: [(s₁.heap.objs.size + 1 + 1 + 1 + 1, oSl2), (lsp, lstObj [.int (z - 2000) u0, .int (z - 2000 - sr) u1, .int (z - 2000 - sr + sz) u2, .int (z - 2000 - sr - S) u3, .int (z - 2000 - sr + sz + S) u4] 0), (37, tabObj #[rawInt 47, rawInt 4, .ref c7]), (30, tabObj #[rawInt 32, rawInt 4, .ref c0]), (c7, oc7), (c0, oc0), (s₁.heap.objs.size + 1 + 1 + 1, oDe2), (qd, lstObj [.ref p1, .ref p2, .ref p3, .ref p4] ndd), (p1, r1), (p2, r2), (p3, r3), (p4, r4)]) ?_) K2 ?_)) ((lsl, lstObj zs' ns') :: [(s₁.heap.objs.size + 1 + 1 + 1 + 1, oSl2), (lsp, lstObj [.int (z - 2000) u0, .int (z - 2000 - sr) u1, .int (z - 2000 - sr + sz) u2, .int (z - 2000 - sr - S) u3, .int (z - 2000 - sr + sz + S) u4] 0), (37, tabObj #[rawInt 47, rawInt 4, .ref c7]), (30, tabObj #[rawInt 32, rawInt 4, .ref c0]), (c7, oc7), (c0, oc0), (s₁.heap.objs.size + 1 + 1 + 1, oDe2), (qd, lstObj [.ref p1, .ref p2, .ref p3, .ref p4] ndd), (p1, r1), (p2, r2), (p3, r3), (p4, r4)]) ?_ off0 (.inr ⟨_, .tail _ (.tail _ (.head _)), rfl, _, rfl⟩) ⟨zs', ns', k', rfl, hz', by omega, ?_⟩
        · intro q hq
          rcases List.mem_cons.mp hq with e | hq
          · exact e ▸ .head _
          rcases List.mem_cons.mp hq with e | hq
          · exact e ▸ .tail _ (.head _)
          rcases List.mem_cons.mp hq with e | hq
          · exact e ▸ .tail _ (.tail _ (.head _))
          · exact .tail _ (.tail _ (.tail _ (.tail _ hq)))
        · intro q hq hm
          have e0 : q.1 = lsl := List.mem_singleton.mp hm
          rcases List.mem_cons.mp hq with e | hq
          · exact off0.1.1 (by rw [e] at e0; exact e0.symm)
          rcases List.mem_cons.mp hq with e | hq
          · exact off0.1.2.1 (by rw [e] at e0; exact e0.symm)
          rcases List.mem_cons.mp hq with e | hq
          · exact off0.1.2.2 (by rw [e] at e0; exact e0.symm)
          · exact hbase q hq e0
        · intro q hq
          rcases List.mem_cons.mp hq with e | hq
          · exact e ▸ .tail _ (.head _)
          rcases List.mem_cons.mp hq with e | hq
          · exact e ▸ .tail _ (.tail _ (.head _))
          rcases List.mem_cons.mp hq with e | hq
          · exact e ▸ .tail _ (.tail _ (.tail _ (.head _)))
          rcases List.mem_cons.mp hq with e | hq
          · exact e ▸ .head _
          · exact .tail _ (.tail _ (.tail _ (.tail _ hq)))
        · rw [htk, List.map_append]
          exact hys.append (.cons _ _ .nil)
      case fin5 =>
        intro ys nw hJ0
        refine hideG fun Gl kG => ?_
        obtain ⟨zs, ns, k, rfl, hzs, hk, hys⟩ := hJ0
        refine ints_five hys rfl fun w0 w1 w2 w3 w4 v0 v1 v2 v3 v4 e9 hl => ?_
        subst e9
        obtain ⟨-, -, g0, g1, g2, g3, g4⟩ := row_law (x := z - 2000) (told := told) (rest := rst) (low := z - 2000 - sr) (high := z - 2000 - sr + sz) hok hwh hS hZ0 (by rw [hsx]; exact htold.symm) (by rw [hsx]; exact hrst.symm) (by rw [hsr]) (by rw [hsz])
        replace hl : [done9 d0 d1 d2 d3 (z - 2000), done9 d0 d1 d2 d3 (z - 2000 - sr), done9 d0 d1 d2 d3 (z - 2000 - sr + sz), done9 d0 d1 d2 d3 (z - 2000 - sr - S), done9 d0 d1 d2 d3 (z - 2000 - sr + sz + S)] = [w0, w1, w2, w3, w4] := hl
        simp only [List.cons.injEq, and_true] at hl
        obtain ⟨f0, f1, f2, f3, f4⟩ := hl
        have k0 : told = w0 := (f0.symm.trans g0).symm
        have k1 : told = w1 := (f1.symm.trans g1).symm
        have k2 : told = w2 := (f2.symm.trans g2).symm
        have k3 : told - 1 = w3 := (f3.symm.trans g3).symm
        have k4 : told + 1 = w4 := (f4.symm.trans g4).symm
        subst k0
        subst k1 k2 k3 k4
        clear hys f0 f1 f2 f3 f4 g0 g1 g2 g3 g4
        refine kG ?_
        clear kG Gl
        try (show wpAny _ _ _ _ _ _; walk_at "mine clean")
        k_steps
        show wpAny _ _ _ _ _ _
        rename News _ _ _ _ => N5
        rename Fr _ _ _ _ => F5
        refine eq_ints_true (ns := [told, told, told, told - 1, told + 1]) (vs := [.int told v0, .int told v1, .int told v2, .int (told - 1) v3, .int (told + 1) v4]) (us := [.int told _, .int told _, .int told _, .int (told - 1) _, .int (told + 1) _]) ⟨_, (N5 _ (.tail _ (.head _))).1, rfl, _, rfl⟩ ints_lit5 ⟨_, (N5 _ (.head _)).1, rfl, _, rfl⟩ ints_lit5 (by units_room) ?_
        k_steps
        show wpAny _ _ (call _ _) _ _ _
        rename News _ _ _ _ => N5
        rename Fr _ _ _ _ => F5
        refine call_len_list (items := zs.toArray) ⟨_, (N5 (lsl, lstObj zs ns) (by k_mem)).1, rfl, _, rfl⟩ (by rw [List.size_toArray, hzs.length, List.length_replicate]; omega) ?_
        show wpAny _ _ (binaryOp _ _ _) _ _ _
        refine mul_zeros F5 N5 (.head _) hzs hk ?_
        intro Dm hm us F6 N6 hus
        clear F5 N5
        show wpAny _ _ (compareOp _ _ _) _ _ _
        refine eq_ints_true (ns := List.replicate k 0) (vs := zs) (us := us) ⟨_, (N6 (lsl, lstObj zs ns) (.tail _ (by k_mem))).1, rfl, _, rfl⟩ hzs ⟨_, (N6 _ (.head _)).1, rfl, _, rfl⟩ hus (by units_room) ?_
        exact ⟨rfl, F6.keep, rfl, hgs, GrownAt.of N6 (.tail _ (by k_mem)), GrownAt.of N6 (.tail _ (by k_mem)), True.intro⟩
end Mine
end SLaw
theorem PySem.Challenge.cw_rs0186_01_holds : PySem.Challenge.rw_rs0186_01.Holds :=
  Mine.t0
