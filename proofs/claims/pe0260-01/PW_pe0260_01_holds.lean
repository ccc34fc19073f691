import PyProof.Rows.All
import Wide.All
import OpenK.AllK
import Wide.FinOn
import PySem.Challenge.RW_pe0260_01
set_option Elab.async false
set_option maxRecDepth 100000
set_option maxHeartbeats 0
set_option linter.unusedSimpArgs false
set_option linter.unusedVariables false
-- The head of the law: the text's top is run by the kernel once for each answer of the world's one row, over the library's own quick twins of the machine (tw.., te..), and each in a theorem of its own. «open_top» serves here for one thing alone: it writes the heap's part (hd.heap_1); what it leaves open is closed by «top».
section
open PySem PySem.W PyProof.Rows PySem.Calls
namespace Mine.Head0
theorem keepRow {a p : Prop} (_ : a) (x : p) : p := x
end Mine.Head0
local macro_rules | `(tactic| o_head $_) => do
  let hw := Lean.mkIdent `hw
  let hc := Lean.mkIdent `hc
  `(tactic| refine Mine.Head0.keepRow (a := ((PySem.Challenge.rw_pe0260_01).row.toRowW).promised) ?$hw ?$hc)
open_top hd for (PySem.Challenge.rw_pe0260_01).row
namespace Mine.Head0
noncomputable abbrev law1 : OpenRow := (PySem.Challenge.rw_pe0260_01).row
noncomputable def vw : Program := view law1.toRowW.prog [0, 2, 3, 4, 5, 6, 7, 8, 10, 11, 12, 13, 14, 15, 17, 19, 20, 21, 22, 23, 24, 25, 26]
noncomputable def adrs : List Addr := [2,3,15,17,18,20,21,22,24,25,27,28,29,31,32,34,35,36,38,39,41,42,43,45,46,48,49,50,52,53,55,56,57,59,60,62,63,64,66,67,69,70,71,73,74,76,77,78,80,81,83,84,95,97,98,100,101,102,104,105,107,108,109,111,112,114,115,116,118,119,121,122,123,125,126,128,129,130,132,133,135,136,137,139,140,142,143,144,145,146,147,148,151,154,155,156,158,159,161,162,163,166,167,168,171,172,173,175,176,178,179,180,183,184,185,188,189,190,193,194]
theorem adrs_ok : ∀ P, adrs = (hd.heap_1 P).map (·.1) := fun _ => by kernel_rfl
theorem said : OpenLaw.wellSaid PySem.Challenge.rw_pe0260_01 = true := by
  rw [PySem.W.Fast.te9446332074065402090]
  kernel_rfl
noncomputable def quickTop : { f : Program → World → Nat → Shared → Option Shared // topFrom treeTable = f } := ⟨_, by
  delta topFrom
  rw [PySem.W.Fast.te14082659384304107361, PySem.W.Fast.te14364793385576792824]⟩
noncomputable abbrev seenAt (p q : Program) (loose : List Str) (Xt : Shared → Bool) {α : Type} (Yf : Shared → α) (N : Nat) (w : World) :=
  ((fencedOpening treeTable p w N).bind (quickTop.1 p w N)).map (fun s => (PySem.W.Fast.tw4187177175401517315 q loose (importedModules p.main.body) Xt true s, Yf s))
theorem left_by {p q : Program} {loose : List Str} {Xt : Shared → Bool} {α : Type} {Yf : Shared → α} {Ya : World → α} {N : Nat} (row : String)
    (hf : ∀ w : World, seenAt p q loose Xt Yf N (w.withFollow row false) = some (openGood q loose, Ya (w.withFollow row false)))
    (ht : ∀ w : World, seenAt p q loose Xt Yf N (w.withFollow row true) = some (openGood q loose, Ya (w.withFollow row true))) : LeftO p q loose Xt Yf Ya N := fun w => by
  have g : ∀ b : Bool, (openEnds treeTable p (w.withFollow row b) N).map (fun s => (openSeen q loose (importedModules p.main.body) Xt true s, Yf s)) = some (openGood q loose, Ya (w.withFollow row b)) := fun b => by
    have : seenAt p q loose Xt Yf N (w.withFollow row b) = some (openGood q loose, Ya (w.withFollow row b)) := by cases b; exact hf w; exact ht w
    unfold seenAt at this
    rw [← quickTop.2, ← PySem.W.Fast.te4187177175401517315] at this
    exact this
  have := g (w.params.followText row)
  rwa [World.withFollow_self] at this
noncomputable abbrev lo : List Str := [PySem.Str.ofString "ONE_THIRD", PySem.Str.ofString "ONE_SIXTH", PySem.Str.ofString "TWO_THIRD", PySem.Str.ofString "Whitespace"]
noncomputable abbrev lv : List (Str × WData) := [(PySem.Str.ofString "ONE_THIRD", WData.float 4599676419421066581), (PySem.Str.ofString "ONE_SIXTH", WData.float 4595172819793696085), (PySem.Str.ofString "TWO_THIRD", WData.float 4604180019048437077)]
noncomputable def xt (s : Shared) : Bool := xlAt vw lv s && recOk (RowW.records law1.toRowW) s
noncomputable abbrev hook : Hook := kmHook hd.heap_1 adrs adrs_ok [44, 37]
theorem half_f : ∀ w : World, seenAt law1.toRowW.prog vw lo xt hook.obs 2412 (w.withFollow "special-get-raises" false) = some (openGood vw lo, hook.val (w.withFollow "special-get-raises" false)) := fun w => by kernel_rfl
theorem half_t : ∀ w : World, seenAt law1.toRowW.prog vw lo xt hook.obs 2412 (w.withFollow "special-get-raises" true) = some (openGood vw lo, hook.val (w.withFollow "special-get-raises" true)) := fun w => by kernel_rfl
theorem left : LeftO law1.toRowW.prog vw lo xt hook.obs hook.val 2412 := left_by "special-get-raises" half_f half_t
theorem shape_ok : (chainsOk vw && opensWell law1.prog && (frees law1.toRowW && law1.within.isEmpty)) = true := by decide +kernel
theorem witness : ((PySem.Challenge.rw_pe0260_01).row.toRowW).promised := by w_witness2
theorem top {d : DefRec} {kwd : List (Str × Expr)} (hdef : defOf vw law1.name = some (d, kwd)) (hp : law1.prog.theDef law1.name = some (d.params, d.body, d.scope)) (hk : kwWritten? d.params.kwonlyargs d.params.kw_defaults = some kwd)
    (walk : WalkO vw [PySem.Str.ofString "ONE_THIRD", PySem.Str.ofString "ONE_SIXTH", PySem.Str.ofString "TWO_THIRD", PySem.Str.ofString "Whitespace"] (XL vw [(PySem.Str.ofString "ONE_THIRD", WData.float 4599676419421066581), (PySem.Str.ofString "ONE_SIXTH", WData.float 4595172819793696085), (PySem.Str.ofString "TWO_THIRD", WData.float 4604180019048437077)]) (kmHook hd.heap_1 adrs adrs_ok [44, 37]).says (PySem.Challenge.rw_pe0260_01).row.toRowW d kwd fun f vs => PySem.call f vs) : (PySem.Challenge.rw_pe0260_01).row.Holds :=
  PySem.W.holds_open (q := vw) (loose := lo) (Xt := xt) (XP := XL vw lv) left hook.of hook.keeps (fun s e => xl_of s (Bool.and_eq_true_iff.mp e).1) XL.keeps hdef hp hk (fun s e => recFacts_of (Bool.and_eq_true_iff.mp e).2) (by rfl) (row_said said) shape_ok ⟨rfl, rfl, rfl, rfl, rfl, by decide +kernel⟩ witness walk
end Mine.Head0
end
namespace Mine
open PySem PySem.W PyProof.Rows PySem.Spec PySem.Calls
local macro_rules | `(tactic| walk_at $s:str) => `(tactic| k_extra $(Lean.Syntax.mkStrLit ("mine " ++ s.getString)))
theorem fill0 : hd.heap_1 = hd.heap_1 ∧ PySem.Challenge.rw_pe0260_01 = PySem.Challenge.rw_pe0260_01 := by
  k_fill
  exact ⟨rfl, rfl⟩
section
open PySem PySem.W PyProof.Rows PySem.Spec PySem.Calls
section
/-- a goal out of sight -/
theorem hide {P : Prop} (h : ∀ G : Prop, (P → G) → G) : P := h P id

abbrev P0 : Program := Challenge.rw_pe0260_01.row.prog
/-- everything of the one heap lies in the other -/
abbrev Up (h h' : Heap) : Prop := ∀ b o, h.get? b = some o → h'.get? b = some o

section
variable {prog : Program} {w : World} {A₀ A : Around} {s : Shared} {base h₀ : Heap} {outer : List Env} {L : Addr} {m : Str → Option Value} {env : Env} {news : List (Addr × Obj)} {K : Frag}
  {p : Program} {loose : List Str} {mean : ExcName → Option Value} {mg mb : Str → Option Value}
  {R : Result → Shared → Prop} {name qual : Str} {params : Arguments} {body : List Stmt} {scope : Scope} {dV kV doc pm cdv ct oc : Value} {an od : Option Addr} {osl : Array (Option Value)} {f : Addr} {args : Args} {binds : List (Str × Value)}

/-- a def of the written part is entered with a chosen part of the ledger; all else of the heap becomes the callee's ground -/
theorem enterG (B : Below A₀ base outer h₀) (F : Fr h₀ L s.heap m) (X₀ : K.In h₀) (N : News h₀ L s.heap news) (T : Top p loose mean mg mb h₀) (hA : A.frames = some (env :: outer)) (hf : env.frame = some L) (hke : env.scope.kind = .function)
    (ho : K.lookup f = some ⟨oc, od, .func (fnOf name qual params body scope dV kV doc pm an cdv ct), osl⟩) (hcd : codeIn K cdv qual = true) (hroom : A.depth < recursionLimit)
    (hbind : BindsTo s (fnOf name qual params body scope dV kV doc pm an cdv ct) args binds) (hloc : ∀ y ∈ binds, scope.names.lookup y.1 = some .local)
    (h : ∀ g L' h₁, (∀ b o, s.heap.get? b = some o → b ∉ news.map (·.1) → g.get? b = some o) → s.heap.objs.size ≤ L' → Fr h₀ L g m → Fr g L' h₁ (fun y => binds.reverse.lookup y) → News g L' h₁ news → Below A base (env :: outer) g → K.In g → Top p loose mean mg mb g →
      (∀ p ∈ news, p.1 < L') →
      wpAny (model prog w) (A.deeper (envOf qual scope L' f cdv)) (execs body (envOf qual scope L' f cdv))
        (fun fl s' => LeaveK h₀ L m g R (match fl with | .ret v => v | _ => .none) s')
        (fun e s' => wpAny (model prog w) (A.deeper (envOf qual scope L' f cdv)) (leaving (envOf qual scope L' f cdv) e) (fun _ s'' => R (.error e) s'') (fun e' s'' => R (.error e') s'') s')
        { s with heap := h₁, toks := s.toks + binds.length })
    (hco : scope.isCoroutine = false) (hgen : scope.isGenerator = false) (hk : scope.kind = .function)
    (hcell : ∀ x ∈ scope.names, x.2 ≠ .cell) : codeAny (model prog w) A (.call (.ref f) args) R s := by
  obtain ⟨FG, BG, st, lv⟩ := groundX (R := R) B F N hA hf hke
  refine codeAny_call_def (body := body) (binds := binds) hroom ((X₀.keeps F.keep) _ _ ho) rfl (T.nolimit.keeps F.keep) (codeRec_of (X₀.keeps F.keep) hcd) rfl hbind hcell hloc (fun h₁ hns hk₁ => ?_) hco hgen hk
  refine wpAny_mono (h _ s.heap.objs.size h₁ (fun b o e n => hideAll_get _ e n) (Nat.le_refl _) FG ⟨hns, fun b o e => hk₁ b o (of_hideAll _ e), Nat.le_of_eq (hideAll_size _ _)⟩
    (fun p hp => ⟨hk₁ _ _ (N p hp).1, Nat.ne_of_lt (Heap.lt_size (N p hp).1), hideAll_none _ (List.mem_map_of_mem hp)⟩) BG (X₀.keeps st) (T.keeps st) (fun p hp => Heap.lt_size (N p hp).1)) (fun fl s' hl => lv _ _ hl) fun _ _ y => y

theorem enterS (B : Below A₀ base outer h₀) (F : Fr h₀ L s.heap m) (X₀ : K.In h₀) (T : Top p loose mean mg mb h₀) (hA : A.frames = some (env :: outer)) (hf : env.frame = some L) (hke : env.scope.kind = .function)
    (ho : K.lookup f = some ⟨oc, od, .func (fnOf name qual params body scope dV kV doc pm an cdv ct), osl⟩) (hcd : codeIn K cdv qual = true) (hroom : A.depth < recursionLimit)
    (hbind : BindsTo s (fnOf name qual params body scope dV kV doc pm an cdv ct) args binds) (hloc : ∀ y ∈ binds, scope.names.lookup y.1 = some .local)
    (h : ∀ g L' h₁, Up s.heap g → Fr h₀ L g m → Fr g L' h₁ (fun y => binds.reverse.lookup y) → News g L' h₁ [] → Below A base (env :: outer) g → K.In g → Top p loose mean mg mb g →
      wpAny (model prog w) (A.deeper (envOf qual scope L' f cdv)) (execs body (envOf qual scope L' f cdv))
        (fun fl s' => LeaveK h₀ L m g R (match fl with | .ret v => v | _ => .none) s')
        (fun e s' => wpAny (model prog w) (A.deeper (envOf qual scope L' f cdv)) (leaving (envOf qual scope L' f cdv) e) (fun _ s'' => R (.error e) s'') (fun e' s'' => R (.error e') s'') s')
        { s with heap := h₁, toks := s.toks + binds.length })
    (hco : scope.isCoroutine = false) (hgen : scope.isGenerator = false) (hk : scope.kind = .function)
    (hcell : ∀ x ∈ scope.names, x.2 ≠ .cell) : codeAny (model prog w) A (.call (.ref f) args) R s :=
  enterG (news := []) B F X₀ News.nil T hA hf hke ho hcd hroom hbind hloc (fun g L' h₁ hG _ FG F' N' B' X' T' _ => h g L' h₁ (fun b o e => hG b o e (by simp)) FG F' N' B' X' T') hco hgen hk hcell

/-- the same where locals are cells -/
theorem enterC (B : Below A₀ base outer h₀) (F : Fr h₀ L s.heap m) (X₀ : K.In h₀) (N : News h₀ L s.heap news) (T : Top p loose mean mg mb h₀) (hA : A.frames = some (env :: outer)) (hf : env.frame = some L) (hke : env.scope.kind = .function)
    (ho : K.lookup f = some ⟨oc, od, .func (fnOf name qual params body scope dV kV doc pm an cdv ct), osl⟩) (hcd : codeIn K cdv qual = true) (hroom : A.depth < recursionLimit)
    (hbind : BindsTo s (fnOf name qual params body scope dV kV doc pm an cdv ct) args binds) (hkind : (binds.all fun y => scope.names.lookup y.1 == some .local || scope.names.lookup y.1 == some .cell) = true)
    (hnd : ((cellsFrom 0 scope.names []).map (·.1)).Nodup)
    (h : ∀ g L' h₁ tk cells, (∀ b o, s.heap.get? b = some o → b ∉ news.map (·.1) → g.get? b = some o) → s.heap.objs.size ≤ L' → Fr h₀ L g m → Fr g L' h₁ (bindL (envOfC qual scope L' f cdv).kindOf binds fun _ => none) → News g L' h₁ (cells ++ news) →
      CellsAre (bindC (envOfC qual scope L' f cdv).kindOf binds fun _ => none) (cellsFrom (L' + 1) scope.names []) cells → Below A base (env :: outer) g → K.In g → Top p loose mean mg mb g → (∀ p ∈ news, p.1 < L') →
      wpAny (model prog w) (A.deeper (envOfC qual scope L' f cdv)) (execs body (envOfC qual scope L' f cdv))
        (fun fl s' => LeaveK h₀ L m g R (match fl with | .ret v => v | _ => .none) s')
        (fun e s' => wpAny (model prog w) (A.deeper (envOfC qual scope L' f cdv)) (leaving (envOfC qual scope L' f cdv) e) (fun _ s'' => R (.error e) s'') (fun e' s'' => R (.error e') s'') s')
        { s with heap := h₁, toks := tk })
    (hco : scope.isCoroutine = false) (hgen : scope.isGenerator = false) (hk : scope.kind = .function) : codeAny (model prog w) A (.call (.ref f) args) R s := by
  obtain ⟨FG, BG, st, lv⟩ := groundX (R := R) B F N hA hf hke
  refine codeAny_call_function hroom ((X₀.keeps F.keep) _ _ ho) rfl hco hgen rfl (codeRec_of (X₀.keeps F.keep) hcd) (hbind _ _ _ _ ?_)
  refine wpAny_newFunctionEnv_cells hk (kindsX hkind _) fun env' he s' x => ?_
  subst he
  refine ⟨(T.nolimit.keeps F.keep).keeps x.toInCall.keep, codeAny_func ?_⟩
  obtain ⟨h₁, tk, rfl, _⟩ := x.done
  have hk₁ := x.toInCall.keep
  obtain ⟨cells, NC, Y⟩ := Cl.news (h₀ := s.heap) (Nat.le_refl _) fun n c hm => ⟨x.cell n c (lookup_of_mem_nodup (cellsFrom_names scope.names 0 (s.heap.objs.size + 1) [] [] rfl ▸ hnd) hm), x.above n c hm⟩
  refine wpAny_mono (h _ s.heap.objs.size h₁ tk cells (fun b o e n => hideAll_get _ e n) (Nat.le_refl _) FG ⟨x.toInCall.ns, fun b o e => hk₁ b o (of_hideAll _ e), Nat.le_of_eq (hideAll_size _ _)⟩ (fun p hp => ?_) Y BG (X₀.keeps st) (T.keeps st) (fun p hp => Heap.lt_size (N p hp).1)) (fun fl s' hl => lv _ _ hl) fun _ _ y => y
  rcases List.mem_append.mp hp with hp | hp
  · refine ⟨(NC p hp).1, (NC p hp).2.1, ?_⟩
    cases q : (hideAll s.heap (news.map (·.1))).get? p.1 with
    | none => rfl
    | some o => have := of_hideAll _ q; rw [(NC p hp).2.2] at this; cases this
  · exact ⟨hk₁ _ _ (N p hp).1, Nat.ne_of_lt (Heap.lt_size (N p hp).1), hideAll_none _ (List.mem_map_of_mem hp)⟩
end

/-- where a call stands: the frames below, the frame, the written part, the top -/
structure Here (w : World) (p : Program) (lz : List Str) (mean : ExcName → Option Value) (mg mb : Str → Option Value) (outer : List Env) (A₀ : Around) (base h₀ : Heap) (L : Addr) (m : Str → Option Value) (cs : Scope) (h : Heap) : Prop where
  B : Below A₀ base outer h₀
  F : Fr h₀ L h m
  X : (hd.heap_1 w.params).In h₀
  T : Top p lz mean mg mb h₀
  k : cs.kind = .function

/-- a contract of a call that changes nothing that stood before -/
def SpecS (w : World) (d u : Nat) (f : Value) (vs : List Value) (Pre : Heap → Prop) (Out : Heap → Value → Heap → Prop) : Prop :=
  ∀ (p : Program) (lz : List Str) (mean : ExcName → Option Value) (mg mb : Str → Option Value) (dp un : Nat) (gd : Option (List Code)) (cn : Str) (cs : Scope) (a : Addr) (ccd : Value) (cl : List (Str × Addr)) (outer : List Env) (A₀ : Around) (base h₀ : Heap) (L : Addr)
    (m : Str → Option Value) (s : Shared) (Q E : Value → Shared → Prop),
    Here w p lz mean mg mb outer A₀ base h₀ L m cs s.heap → dp + d < recursionLimit → un + u < cLine → Pre s.heap →
    (∀ r h' tk', Up s.heap h' → Out s.heap r h' → Q r { s with heap := h', toks := tk' }) →
    wpAny (model P0 w) (ktrTop dp un gd cn cs L a ccd cl outer) (call f vs) Q E s

section
variable {w : World} {d u : Nat} {f : Value} {vs : List Value} {Pre : Heap → Prop} {Out : Heap → Value → Heap → Prop} {p : Program} {lz : List Str} {mean : ExcName → Option Value} {mg mb : Str → Option Value} {dp un : Nat} {gd : Option (List Code)} {cn : Str} {cs : Scope} {a : Addr} {ccd : Value} {cl : List (Str × Addr)} {outer : List Env} {A₀ : Around} {base h₀ : Heap} {L : Addr}
    {m : Str → Option Value} {s : Shared} {Q E : Value → Shared → Prop} {news : List (Addr × Obj)}
theorem useS (S : SpecS w d u f vs Pre Out) (B : Below A₀ base outer h₀) (F : Fr h₀ L s.heap m) (X : (hd.heap_1 w.params).In h₀) (N : News h₀ L s.heap news) (T : Top p lz mean mg mb h₀) (hk : cs.kind = .function)
    (hd : dp + d < recursionLimit) (hu : un + u < cLine) (pre : Pre s.heap)
    (ret : ∀ r h' tk', Fr h₀ L h' m → News h₀ L h' news → Up s.heap h' → Out s.heap r h' → Q r { s with heap := h', toks := tk' }) :
    wpAny (model P0 w) (ktrTop dp un gd cn cs L a ccd cl outer) (call f vs) Q E s :=
  S p lz mean mg mb dp un gd cn cs a ccd cl outer A₀ base h₀ L m s Q E ⟨B, F, X, T, hk⟩ hd hu pre fun r h' tk' up out => ret r h' tk' (F.keeps up) (N.grown up) up out
end
abbrev tup (vs : List Value) : Obj := { cls := .type "tuple", data := .seq vs.toArray }
/-- what is not of the callee's ground was not there -/
theorem fresh_of {h g : Heap} {t : Addr} {l : List Addr} (hG : ∀ b o, h.get? b = some o → b ∉ l → g.get? b = some o) (hl : t ∉ l) (hn : g.get? t = none) : h.get? t = none := by
  cases e : h.get? t with
  | none => rfl
  | some o => rw [hG t o e hl] at hn; cases hn
theorem fresh_up {h g : Heap} {t : Addr} (hG : Up h g) (hn : g.get? t = none) : h.get? t = none := by
  cases e : h.get? t with
  | none => rfl
  | some o => rw [hG t o e] at hn; cases hn
theorem ret3 {h g h' : Heap} {L t : Addr} {l : List (Addr × Obj)} {a b c a' b' c' : UInt64} {u1 u2 u3 : Tok} (hG : Up h g) (N : News g L h' ((t, tup [.float a u1, .float b u2, .float c u3]) :: l)) (ha : a = a') (hb : b = b') (hc : c = c') :
    ∃ t₁ v1 v2 v3, Value.ref t = .ref t₁ ∧ h.get? t₁ = none ∧ h'.get? t₁ = some (tup [.float a' v1, .float b' v2, .float c' v3]) := by
  subst ha hb hc
  exact ⟨t, u1, u2, u3, rfl, fresh_up hG (N _ (List.mem_cons_self ..)).2.2, (N _ (List.mem_cons_self ..)).1⟩
/-- a new object joins the ledger -/
theorem join {h₀ h h' : Heap} {L t : Addr} {m : Str → Option Value} {o : Obj} {news : List (Addr × Obj)} (F : Fr h₀ L h m) (ht : h.get? t = none) (ho : h'.get? t = some o) (N : News h₀ L h' news) : News h₀ L h' ((t, o) :: news) := by
  intro p hp
  rcases List.mem_cons.mp hp with rfl | hp
  · refine ⟨ho, fun q => ?_, ?_⟩
    · obtain ⟨oL, _, _, hL, _⟩ := F.ns
      rw [← q, ht] at hL; cases hL
    · cases e : h₀.get? t with
      | none => rfl
      | some o' => rw [F.keep _ _ e] at ht; cases ht
  · exact N p hp
theorem apart {h₀ h : Heap} {L t : Addr} {news : List (Addr × Obj)} (ht : h.get? t = none) (N : News h₀ L h news) : ∀ p ∈ news, p.1 ≠ t := fun p hp q => by
  have := (N p hp).1
  rw [q, ht] at this; cases this
theorem ne_of_fresh {h : Heap} {a t : Addr} {o : Obj} (ht : h.get? t = none) (ho : h.get? a = some o) : a ≠ t := fun q => by
  rw [q, ht] at ho; cases ho
section
variable {prog : Program} {w : World} {A : Around} {E : Value → Shared → Prop} {s : Shared} {h₀ : Heap} {L : Addr} {m : Str → Option Value} {news : List (Addr × Obj)}
/-- an item of a list of the ground, at a written place -/
theorem item_base {value slice : Expr} {l : Addr} {items : Array Value} {k : Int} {u : Tok} {v : Value} {Q : Value → Shared → Prop} (F : Fr h₀ L s.heap m)
    (hl : h₀.IsList l items) (h0 : 0 ≤ k) (hhi : k < 2 ^ 63) (hx : items[k.toNat]? = some v) (h : Q v s)
    (hs : subscripted slice false (.ref l) (.int k u) = operate [.ref l, .int k u] (getItem (.ref l) (.int k u)) := by with_unfolding_all rfl) :
    wpAny (model prog w) A (subscriptTail value slice (.ref l) (.int k u)) Q E s :=
  have hl' := hl.at fun o e => F.keep _ o e
  tail_any hl'.typeIs slot_list_getitem.lookup (wpAny_getItem_list hl' h0 hhi hx h) hs
end
theorem at3_0 {a b c : Value} : (#[a, b, c] : Array Value)[Int.toNat 0]? = some a := rfl
theorem at3_1 {a b c : Value} : (#[a, b, c] : Array Value)[Int.toNat 1]? = some b := rfl
theorem at3_2 {a b c : Value} : (#[a, b, c] : Array Value)[Int.toNat 2]? = some c := rfl
theorem tup_is {h : Heap} {a : Addr} {vs : List Value} (e : h.get? a = some (tup vs)) : h.IsTuple a vs.toArray := ⟨_, e, rfl, _, rfl⟩
end
end
section
open PySem PySem.W PyProof.Rows PySem.Spec PySem.Calls
section
/-- where the walk is to stand still -/
def Halt (P : Prop) : Prop := P
theorem Halt.mk {P : Prop} (h : P) : Halt P := h
theorem Halt.out {P : Prop} (h : Halt P) : P := h
section
variable {prog : Program} {w : World} {A : Around} {E : Value → Shared → Prop} {s : Shared}
def iAt (a b c : Int) : Nat → Int
  | 0 => a
  | 1 => b
  | _ => c
theorem iAt_of {a b c : Int} {t u x : Tok} {i : Nat} {v : Value} (h : (#[.int a t, .int b u, .int c x] : Array Value)[i]? = some v) : ∃ y, v = .int (iAt a b c i) y := by
  match i, h with
  | 0, h => exact ⟨t, (Option.some.inj h).symm⟩
  | 1, h => exact ⟨u, (Option.some.inj h).symm⟩
  | 2, h => exact ⟨x, (Option.some.inj h).symm⟩
  | i + 3, h => simp at h
theorem minL {l : Addr} {a b c : Int} {t u x : Tok} {Q : Value → Shared → Prop} (hh : A.handled = none) (hl : s.heap.IsList l #[.int a t, .int b u, .int c x])
    (h : ∀ y h' tk, Up s.heap h' → Q (.int (min (min a b) c) y) { s with heap := h', toks := tk }) :
    wpAny (model prog w) A (call (.builtin "min") [.ref l]) Q E s := by
  obtain ⟨ol, hol, _⟩ := id hl
  have hlt := Heap.lt_size hol
  refine call_min_walk (wpAny_pyIter_list hl ?_)
  refine ⟨_, _, _, _, _, _, fun i j => decide (iAt a b c i < iAt a b c j), rfl, Walks.list (A := A.in1) hh s.heap.objs.size l (Nat.ne_of_lt hlt) _,
    ⟨⟨_, Heap.get?_push_size _ rfl, rfl, rfl⟩, hl.push _⟩, fun d hd => ?_, by simp, CmpOf.ints_lt (iAt a b c) (fun _ _ => iAt_of), fun v h' tk hP hk => ?_⟩
  · show d < (s.heap.push _).objs.size
    rw [Heap.size_push]
    rcases List.mem_cons.mp hd with rfl | hd
    · exact Nat.lt_succ_self _
    · rw [List.mem_singleton.mp hd]; exact Nat.lt_succ_of_lt hlt
  · have hold : Up s.heap h' := fun d o e => hk d o (fun hm => by rw [List.mem_singleton.mp hm] at e; exact absurd (Heap.lt_size e) (Nat.lt_irrefl _)) (Heap.get?_push_of_some _ e)
    obtain ⟨y, rfl⟩ := iAt_of hP
    have e : iAt a b c (argBest (fun i j => decide (iAt a b c i < iAt a b c j)) 2) = min (min a b) c := by
      have := argBest_lt (iAt a b c) 2
      have h0 := this.2 0 (by omega)
      have h1 := this.2 1 (by omega)
      have h2 := this.2 2 (by omega)
      have h3 := this.1
      generalize argBest (fun i j => decide (iAt a b c i < iAt a b c j)) 2 = k at *
      match k, h3 with
      | 0, _ => simp only [iAt] at *; omega
      | 1, _ => simp only [iAt] at *; omega
      | 2, _ => simp only [iAt] at *; omega
    have := h y h' tk hold
    rw [← e] at this
    exact this
theorem maxL {l : Addr} {a b c : Int} {t u x : Tok} {Q : Value → Shared → Prop} (hh : A.handled = none) (hl : s.heap.IsList l #[.int a t, .int b u, .int c x])
    (h : ∀ y h' tk, Up s.heap h' → Q (.int (max (max a b) c) y) { s with heap := h', toks := tk }) :
    wpAny (model prog w) A (call (.builtin "max") [.ref l]) Q E s := by
  obtain ⟨ol, hol, _⟩ := id hl
  have hlt := Heap.lt_size hol
  refine call_max_walk (wpAny_pyIter_list hl ?_)
  refine ⟨_, _, _, _, _, _, fun i j => decide (iAt a b c i > iAt a b c j), rfl, Walks.list (A := A.in1) hh s.heap.objs.size l (Nat.ne_of_lt hlt) _,
    ⟨⟨_, Heap.get?_push_size _ rfl, rfl, rfl⟩, hl.push _⟩, fun d hd => ?_, by simp, CmpOf.ints_gt (iAt a b c) (fun _ _ => iAt_of), fun v h' tk hP hk => ?_⟩
  · show d < (s.heap.push _).objs.size
    rw [Heap.size_push]
    rcases List.mem_cons.mp hd with rfl | hd
    · exact Nat.lt_succ_self _
    · rw [List.mem_singleton.mp hd]; exact Nat.lt_succ_of_lt hlt
  · have hold : Up s.heap h' := fun d o e => hk d o (fun hm => by rw [List.mem_singleton.mp hm] at e; exact absurd (Heap.lt_size e) (Nat.lt_irrefl _)) (Heap.get?_push_of_some _ e)
    obtain ⟨y, rfl⟩ := iAt_of hP
    have e : iAt a b c (argBest (fun i j => decide (iAt a b c i > iAt a b c j)) 2) = max (max a b) c := by
      have := argBest_gt (iAt a b c) 2
      have h0 := this.2 0 (by omega)
      have h1 := this.2 1 (by omega)
      have h2 := this.2 2 (by omega)
      have h3 := this.1
      generalize argBest (fun i j => decide (iAt a b c i > iAt a b c j)) 2 = k at *
      match k, h3 with
      | 0, _ => simp only [iAt] at *; omega
      | 1, _ => simp only [iAt] at *; omega
      | 2, _ => simp only [iAt] at *; omega
    have := h y h' tk hold
    rw [← e] at this
    exact this
end
section
variable {prog : Program} {w : World} {A : Around} {E : Value → Shared → Prop} {s : Shared} {h₀ : Heap} {L : Addr} {m : Str → Option Value} {news : List (Addr × Obj)}
theorem minLK {l : Addr} {a b c : Int} {t u x : Tok} {Q : Value → Shared → Prop} (F : Fr h₀ L s.heap m) (N : News h₀ L s.heap news) (hh : A.handled = none) (hl : h₀.IsList l #[.int a t, .int b u, .int c x])
    (h : ∀ y h' tk, Fr h₀ L h' m → News h₀ L h' news → Q (.int (min (min a b) c) y) { s with heap := h', toks := tk }) :
    wpAny (model prog w) A (call (.builtin "min") [.ref l]) Q E s := minL hh (hl.at fun o e => F.keep _ o e) fun y h' tk up => h y h' tk (F.keeps up) (N.grown up)
theorem maxLK {l : Addr} {a b c : Int} {t u x : Tok} {Q : Value → Shared → Prop} (F : Fr h₀ L s.heap m) (N : News h₀ L s.heap news) (hh : A.handled = none) (hl : h₀.IsList l #[.int a t, .int b u, .int c x])
    (h : ∀ y h' tk, Fr h₀ L h' m → News h₀ L h' news → Q (.int (max (max a b) c) y) { s with heap := h', toks := tk }) :
    wpAny (model prog w) A (call (.builtin "max") [.ref l]) Q E s := maxL hh (hl.at fun o e => F.keep _ o e) fun y h' tk up => h y h' tk (F.keeps up) (N.grown up)
end
end
end
section
open PySem PySem.W PyProof.Rows PySem.Spec PySem.Calls
section
theorem top_off_F1 : True := by
  w_top off
  k_with_none
  trivial
def vF (m1 m2 hue : UInt64) : UInt64 :=
  if (Float64.cmp (Float64.divmod hue 4607182418800017408).2 4595172819793696085 == some Ordering.lt) = true then Float64.add m1 (Float64.mul (Float64.mul (Float64.sub m2 m1) (Float64.divmod hue 4607182418800017408).2) 4618441417868443648)
  else if (Float64.cmp (Float64.divmod hue 4607182418800017408).2 4602678819172646912 == some Ordering.lt) = true then m2
  else if (Float64.cmp (Float64.divmod hue 4607182418800017408).2 4604180019048437077 == some Ordering.lt) = true then Float64.add m1 (Float64.mul (Float64.mul (Float64.sub m2 m1) (Float64.sub 4604180019048437077 (Float64.divmod hue 4607182418800017408).2)) 4618441417868443648)
  else m1

theorem v_spec (w : World) (m1 m2 hue : UInt64) (t1 t2 t3 : Tok) : SpecS w 1 8 (.ref 84) [.float m1 t1, .float m2 t2, .float hue t3] (fun _ => True) (fun _ r _ => ∃ t, r = .float (vF m1 m2 hue) t) := by
  unfold SpecS
  intro p lz mean mg mb dp un gd cn cs a ccd cl outer A₀ base h₀ L m s Q E H hdp hu _ hret
  refine hide ?_
  intro GG bk
  obtain ⟨B, F, X, T, hk⟩ := H
  refine bk ?_
  clear bk
  ((refine wpAny_call ?_; k_dflt (refine' enterS ?k1 ?k2 ?k3 ?k5 ?kA ?kF ?kK ?k6 ?k7 ?k8 ?k9 ?kB ?_ ?c2 ?c3 ?c4 ?c5; (case kA => exact rfl); (case kF => exact rfl); (case kK => assumption); (case k1 => k_asm); (case k2 => k_asm); (case k3 => k_asm); (case k5 => k_asm); (case k6 => k_is); (case k7 => k_is); (case k8 => ktr_room); (case k9 => exact BindsTo.of_eq rfl); (case c5 => decide); (case kB => exact locs rfl); (case c2 => exact rfl); (case c3 => exact rfl); (case c4 => exact rfl); k_whole)))
  intro g' L' h' hG FG' F' N' B' X' T'
  try dsimp only
  try k_fold
  k_steps
  all_goals (refine hret _ _ _ (fun b o e => Fr.keep (by assumption) b o (hG b o e)) ⟨_, congrArg (Value.float · _) ?_⟩; simp only [vF, *, if_true, Bool.false_eq_true, if_false])
end
end
section
open PySem PySem.W PyProof.Rows PySem.Spec PySem.Calls
section
theorem top_off_F2 : True := by
  w_top off
  k_with_none
  trivial
def maxF (a b c : UInt64) : UInt64 :=
  if (Float64.cmp c (if (Float64.cmp b a == some Ordering.gt) = true then b else a) == some Ordering.gt) = true then c else (if (Float64.cmp b a == some Ordering.gt) = true then b else a)
def minF (a b c : UInt64) : UInt64 :=
  if (Float64.cmp c (if (Float64.cmp b a == some Ordering.lt) = true then b else a) == some Ordering.lt) = true then c else (if (Float64.cmp b a == some Ordering.lt) = true then b else a)
section
variable {prog : Program} {w : World} {A : Around} {E : Value → Shared → Prop} {s : Shared}
def fAt (a b c : UInt64) : Nat → UInt64
  | 0 => a
  | 1 => b
  | _ => c
theorem fAt_of {a b c : UInt64} {t u x : Tok} {i : Nat} {v : Value} (h : (#[.float a t, .float b u, .float c x] : Array Value)[i]? = some v) : ∃ y, v = .float (fAt a b c i) y := by
  match i, h with
  | 0, h => exact ⟨t, (Option.some.inj h).symm⟩
  | 1, h => exact ⟨u, (Option.some.inj h).symm⟩
  | 2, h => exact ⟨x, (Option.some.inj h).symm⟩
  | i + 3, h => simp at h
theorem max3 {a b c : UInt64} {t u x : Tok} {Q : Value → Shared → Prop} (hh : A.handled = none)
    (h : ∀ y h' tk, Up s.heap h' → Q (.float (maxF a b c) y) { s with heap := h', toks := tk }) :
    wpAny (model prog w) A (call (.builtin "max") [.float a t, .float b u, .float c x]) Q E s := by
  have hT : (s.heap.push { cls := .type "tuple", data := .seq #[.float a t, .float b u, .float c x] }).IsTuple s.heap.objs.size #[.float a t, .float b u, .float c x] := ⟨_, Heap.get?_push_size _ rfl, rfl, 0, rfl⟩
  have hsz : (s.heap.push { cls := .type "tuple", data := .seq #[.float a t, .float b u, .float c x] }).objs.size = s.heap.objs.size + 1 := Heap.size_push ..
  refine call_max_three (wpAny_pyIter_tuple hT ?_)
  refine ⟨_, [_, s.heap.objs.size], [_], _, _, _, fun i j => Float64.cmp (fAt a b c i) (fAt a b c j) == some Ordering.gt, rfl, Walks.tuple (A := A.in1) hh _ s.heap.objs.size (by rw [hsz]; exact Nat.ne_of_lt (Nat.lt_succ_self _)) _,
    ⟨⟨_, Heap.get?_push_size _ rfl, rfl, rfl⟩, hT.push _⟩, fun d hd => ?_, by simp, ?_, fun v h' tk hP hk => ?_⟩
  · show d < ((s.heap.push _).push _).objs.size
    rw [Heap.size_push, hsz]
    rcases List.mem_cons.mp hd with rfl | hd
    · rw [hsz]; exact Nat.lt_succ_self _
    · rw [List.mem_singleton.mp hd]; exact Nat.lt_succ_of_lt (Nat.lt_succ_self _)
  · intro i j vi vj s' Q' E' hi hj hq
    obtain ⟨t1, rfl⟩ := fAt_of hi
    obtain ⟨t2, rfl⟩ := fAt_of hj
    exact AutoFloatOps.gt_0 hq
  · have hold : Up s.heap h' := fun d o e => by
      refine hk d o (fun hm => ?_) (Heap.get?_push_of_some _ (Heap.get?_push_of_some _ e))
      have := Heap.lt_size e
      rw [List.mem_singleton.mp hm, hsz] at this
      exact Nat.lt_irrefl _ (Nat.lt_of_succ_lt this)
    have e : fAt a b c (argBest (fun i j => Float64.cmp (fAt a b c i) (fAt a b c j) == some Ordering.gt) 2) = maxF a b c := by
      unfold maxF
      by_cases h1 : (Float64.cmp b a == some Ordering.gt) = true
      · by_cases h2 : (Float64.cmp c b == some Ordering.gt) = true <;> simp [argBest, fAt, h1, h2]
      · by_cases h2 : (Float64.cmp c a == some Ordering.gt) = true <;> simp [argBest, fAt, h1, h2]
    obtain ⟨y, rfl⟩ := fAt_of hP
    have := h y h' tk hold
    rw [← e] at this
    exact this
theorem min3 {a b c : UInt64} {t u x : Tok} {Q : Value → Shared → Prop} (hh : A.handled = none)
    (h : ∀ y h' tk, Up s.heap h' → Q (.float (minF a b c) y) { s with heap := h', toks := tk }) :
    wpAny (model prog w) A (call (.builtin "min") [.float a t, .float b u, .float c x]) Q E s := by
  have hT : (s.heap.push { cls := .type "tuple", data := .seq #[.float a t, .float b u, .float c x] }).IsTuple s.heap.objs.size #[.float a t, .float b u, .float c x] := ⟨_, Heap.get?_push_size _ rfl, rfl, 0, rfl⟩
  have hsz : (s.heap.push { cls := .type "tuple", data := .seq #[.float a t, .float b u, .float c x] }).objs.size = s.heap.objs.size + 1 := Heap.size_push ..
  refine call_min_three (wpAny_pyIter_tuple hT ?_)
  refine ⟨_, [_, s.heap.objs.size], [_], _, _, _, fun i j => Float64.cmp (fAt a b c i) (fAt a b c j) == some Ordering.lt, rfl, Walks.tuple (A := A.in1) hh _ s.heap.objs.size (by rw [hsz]; exact Nat.ne_of_lt (Nat.lt_succ_self _)) _,
    ⟨⟨_, Heap.get?_push_size _ rfl, rfl, rfl⟩, hT.push _⟩, fun d hd => ?_, by simp, ?_, fun v h' tk hP hk => ?_⟩
  · show d < ((s.heap.push _).push _).objs.size
    rw [Heap.size_push, hsz]
    rcases List.mem_cons.mp hd with rfl | hd
    · rw [hsz]; exact Nat.lt_succ_self _
    · rw [List.mem_singleton.mp hd]; exact Nat.lt_succ_of_lt (Nat.lt_succ_self _)
  · intro i j vi vj s' Q' E' hi hj hq
    obtain ⟨t1, rfl⟩ := fAt_of hi
    obtain ⟨t2, rfl⟩ := fAt_of hj
    exact AutoFloatOps.lt_0 hq
  · have hold : Up s.heap h' := fun d o e => by
      refine hk d o (fun hm => ?_) (Heap.get?_push_of_some _ (Heap.get?_push_of_some _ e))
      have := Heap.lt_size e
      rw [List.mem_singleton.mp hm, hsz] at this
      exact Nat.lt_irrefl _ (Nat.lt_of_succ_lt this)
    have e : fAt a b c (argBest (fun i j => Float64.cmp (fAt a b c i) (fAt a b c j) == some Ordering.lt) 2) = minF a b c := by
      unfold minF
      by_cases h1 : (Float64.cmp b a == some Ordering.lt) = true
      · by_cases h2 : (Float64.cmp c b == some Ordering.lt) = true <;> simp [argBest, fAt, h1, h2]
      · by_cases h2 : (Float64.cmp c a == some Ordering.lt) = true <;> simp [argBest, fAt, h1, h2]
    obtain ⟨y, rfl⟩ := fAt_of hP
    have := h y h' tk hold
    rw [← e] at this
    exact this
end
section
variable {prog : Program} {w : World} {A : Around} {E : Value → Shared → Prop} {s : Shared} {h₀ : Heap} {L : Addr} {m : Str → Option Value} {news : List (Addr × Obj)}
theorem max3K {a b c : UInt64} {t u x : Tok} {Q : Value → Shared → Prop} (F : Fr h₀ L s.heap m) (N : News h₀ L s.heap news) (hh : A.handled = none)
    (h : ∀ y h' tk, Fr h₀ L h' m → News h₀ L h' news → Q (.float (maxF a b c) y) { s with heap := h', toks := tk }) :
    wpAny (model prog w) A (call (.builtin "max") [.float a t, .float b u, .float c x]) Q E s := max3 hh fun y h' tk up => h y h' tk (F.keeps up) (N.grown up)
theorem min3K {a b c : UInt64} {t u x : Tok} {Q : Value → Shared → Prop} (F : Fr h₀ L s.heap m) (N : News h₀ L s.heap news) (hh : A.handled = none)
    (h : ∀ y h' tk, Fr h₀ L h' m → News h₀ L h' news → Q (.float (minF a b c) y) { s with heap := h', toks := tk }) :
    wpAny (model prog w) A (call (.builtin "min") [.float a t, .float b u, .float c x]) Q E s := min3 hh fun y h' tk up => h y h' tk (F.keeps up) (N.grown up)
end


theorem lines_F2_1 : True := by
  (k_with "mine call builtin:max" => (k_here; (with_reducible show wpAny _ _ (call (Value.builtin _) [Value.float _ _, Value.float _ _, Value.float _ _]) _ _ _); k_dflt (refine' max3K ?k1_h ?k2_h ?k3_h ?_; (case k1_h => k_asm); (case k2_h => k_asm); (case k3_h => exact rfl); k_whole); intro y_q h_q tk_q F_q N_q; (try dsimp only); (try k_sweep)))
  (k_with "mine call builtin:min" => (k_here; (with_reducible show wpAny _ _ (call (Value.builtin _) [Value.float _ _, Value.float _ _, Value.float _ _]) _ _ _); k_dflt (refine' min3K ?k1_h ?k2_h ?k3_h ?_; (case k1_h => k_asm); (case k2_h => k_asm); (case k3_h => exact rfl); k_whole); intro y_q h_q tk_q F_q N_q; (try dsimp only); (try k_sweep)))
  trivial
/-- what rgb_to_hls reckons, where the greatest and the least part are x and n -/
def hueF (r g b x n : UInt64) : UInt64 :=
  (Float64.divmod (Float64.div (if (Float64.cmp r x == some Ordering.eq) = true then Float64.sub (Float64.div (Float64.sub x b) (Float64.sub x n)) (Float64.div (Float64.sub x g) (Float64.sub x n))
    else if (Float64.cmp g x == some Ordering.eq) = true then Float64.sub (Float64.add 4611686018427387904 (Float64.div (Float64.sub x r) (Float64.sub x n))) (Float64.div (Float64.sub x b) (Float64.sub x n))
    else Float64.sub (Float64.add 4616189618054758400 (Float64.div (Float64.sub x g) (Float64.sub x n))) (Float64.div (Float64.sub x r) (Float64.sub x n))) 4618441417868443648) 4607182418800017408).2
def lightF (x n : UInt64) : UInt64 := Float64.div (Float64.add x n) 4611686018427387904
def satF (x n : UInt64) : UInt64 := if (Float64.cmp (lightF x n) 4602678819172646912 == some Ordering.lt || Float64.cmp (lightF x n) 4602678819172646912 == some Ordering.eq) = true then Float64.div (Float64.sub x n) (Float64.add x n) else Float64.div (Float64.sub x n) (Float64.sub (Float64.sub 4611686018427387904 x) n)
def hlsF (r g b : UInt64) : UInt64 × UInt64 × UInt64 :=
  if (Float64.cmp (minF r g b) (maxF r g b) == some Ordering.eq) = true then (0, lightF (maxF r g b) (minF r g b), 0)
  else (hueF r g b (maxF r g b) (minF r g b), lightF (maxF r g b) (minF r g b), satF (maxF r g b) (minF r g b))
def hlsOk (r g b : UInt64) : Bool :=
  (Float64.cmp (minF r g b) (maxF r g b) == some Ordering.eq) || !(Float64.isZero (Float64.add (maxF r g b) (minF r g b)) || Float64.isZero (Float64.sub (maxF r g b) (minF r g b)) || Float64.isZero (Float64.sub (Float64.sub 4611686018427387904 (maxF r g b)) (minF r g b)))
theorem hls_ok {r g b : UInt64} (h : hlsOk r g b = true) : (Float64.cmp (minF r g b) (maxF r g b) == some Ordering.eq) = true ∨ (Float64.isZero (Float64.add (maxF r g b) (minF r g b)) = false ∧ Float64.isZero (Float64.sub (maxF r g b) (minF r g b)) = false ∧ Float64.isZero (Float64.sub (Float64.sub 4611686018427387904 (maxF r g b)) (minF r g b)) = false) := by
  simp only [hlsOk, Bool.or_eq_true, Bool.not_eq_true', Bool.or_eq_false_iff] at h
  rcases h with h | ⟨⟨h1, h2⟩, h3⟩
  · exact .inl h
  · exact .inr ⟨h1, h2, h3⟩
theorem rgb_spec (w : World) (x y z : UInt64) (t1 t2 t3 : Tok) : SpecS w 1 8 (.ref 70) [.float x t1, .float y t2, .float z t3] (fun _ => hlsOk x y z = true)
    (fun h r h' => ∃ t u1 u2 u3, r = .ref t ∧ h.get? t = none ∧ h'.get? t = some (tup [.float (hlsF x y z).1 u1, .float (hlsF x y z).2.1 u2, .float (hlsF x y z).2.2 u3])) := by
  unfold SpecS
  intro p lz mean mg mb dp un gd cn cs a ccd cl outer A₀ base h₀ L m s Q E H hdp hu hok hret
  have hok := hls_ok hok
  refine hide ?_
  intro GG bk
  obtain ⟨B, F, X, T, hk⟩ := H
  refine bk ?_
  clear bk
  ((refine wpAny_call ?_; k_dflt (refine' enterS ?k1 ?k2 ?k3 ?k5 ?kA ?kF ?kK ?k6 ?k7 ?k8 ?k9 ?kB ?_ ?c2 ?c3 ?c4 ?c5; (case kA => exact rfl); (case kF => exact rfl); (case kK => assumption); (case k1 => k_asm); (case k2 => k_asm); (case k3 => k_asm); (case k5 => k_asm); (case k6 => k_is); (case k7 => k_is); (case k8 => ktr_room); (case k9 => exact BindsTo.of_eq rfl); (case c5 => decide); (case kB => exact locs rfl); (case c2 => exact rfl); (case c3 => exact rfl); (case c4 => exact rfl); k_whole)))
  intro g' L' h' hG FG' F' N' B' X' T'
  try dsimp only
  try k_fold
  k_steps
  all_goals try (rcases hok with h9 | ⟨h9, h8, h7⟩
                 · exact Bool.noConfusion (Eq.trans (Eq.symm h9) (by assumption : (Float64.cmp (minF x y z) (maxF x y z) == some Ordering.eq) = false))
                 · first
                   | exact Bool.noConfusion (Eq.trans (Eq.symm h9) (by assumption : Float64.isZero (Float64.add (maxF x y z) (minF x y z)) = true))
                   | exact Bool.noConfusion (Eq.trans (Eq.symm h8) (by assumption : Float64.isZero (Float64.sub (maxF x y z) (minF x y z)) = true))
                   | exact Bool.noConfusion (Eq.trans (Eq.symm h7) (by assumption : Float64.isZero (Float64.sub (Float64.sub 4611686018427387904 (maxF x y z)) (minF x y z)) = true)))
  all_goals (refine hret _ _ _ (fun b o e => Fr.keep (by assumption) b o (hG b o e)) (ret3 hG (by assumption) ?_ ?_ ?_) <;> simp only [hlsF, hueF, lightF, satF, *, if_true, Bool.false_eq_true, if_false])
end
end
section
open PySem PySem.W PyProof.Rows PySem.Spec PySem.Calls
section
theorem top_off_F3 : True := by
  w_top off
  k_with_none
  trivial

theorem lines_F3_1 : True := by
  (k_with "mine call ref" => (k_here; (with_reducible show wpAny _ _ (call (Value.ref 84) [Value.float _ _, Value.float _ _, Value.float _ _]) _ _ _); k_dflt (refine' useS (v_spec _ _ _ _ _ _ _) ?k1_h ?k2_h ?k3_h ?k4_h ?k5_h ?kK_h ?kd_h ?ku_h ?kp_h ?_; (case k1_h => k_asm); (case k2_h => k_asm); (case k3_h => k_asm); (case k4_h => k_asm); (case k5_h => k_asm); (case kK_h => first | exact rfl | assumption); (case kd_h => ktr_room); (case ku_h => ktr_units); (case kp_h => exact trivial); k_whole); intro r_q h_q tk_q F_q N_q up_q out_q; obtain ⟨t', e'⟩ := out_q; subst e'; clear up_q; (try dsimp only); (try k_sweep); (try k_fold)))
  trivial
def m2F (l s : UInt64) : UInt64 := if (Float64.cmp l 4602678819172646912 == some Ordering.lt || Float64.cmp l 4602678819172646912 == some Ordering.eq) = true then Float64.mul l (Float64.add 4607182418800017408 s) else Float64.sub (Float64.add l s) (Float64.mul l s)
def m1F (l s : UInt64) : UInt64 := Float64.sub (Float64.mul 4611686018427387904 l) (m2F l s)
def rgbF (h l s : UInt64) : UInt64 × UInt64 × UInt64 :=
  if (Float64.cmp s 0 == some Ordering.eq) = true then (l, l, l)
  else (vF (m1F l s) (m2F l s) (Float64.add h 4599676419421066581), vF (m1F l s) (m2F l s) h, vF (m1F l s) (m2F l s) (Float64.sub h 4599676419421066581))
theorem hls_spec (w : World) (x y z : UInt64) (t1 t2 t3 : Tok) : SpecS w 2 16 (.ref 77) [.float x t1, .float y t2, .float z t3] (fun _ => True)
    (fun h r h' => ∃ t u1 u2 u3, r = .ref t ∧ h.get? t = none ∧ h'.get? t = some (tup [.float (rgbF x y z).1 u1, .float (rgbF x y z).2.1 u2, .float (rgbF x y z).2.2 u3])) := by
  unfold SpecS
  intro p lz mean mg mb dp un gd cn cs a ccd cl outer A₀ base h₀ L m s Q E H hdp hu hok hret
  obtain ⟨B, F, X, T, hk⟩ := H
  ((refine wpAny_call ?_; k_dflt (refine' enterS ?k1 ?k2 ?k3 ?k5 ?kA ?kF ?kK ?k6 ?k7 ?k8 ?k9 ?kB ?_ ?c2 ?c3 ?c4 ?c5; (case kA => exact rfl); (case kF => exact rfl); (case kK => assumption); (case k1 => k_asm); (case k2 => k_asm); (case k3 => k_asm); (case k5 => k_asm); (case k6 => k_is); (case k7 => k_is); (case k8 => ktr_room); (case k9 => exact BindsTo.of_eq rfl); (case c5 => decide); (case kB => exact locs rfl); (case c2 => exact rfl); (case c3 => exact rfl); (case c4 => exact rfl); k_whole)))
  intro g' L' h' hG FG' F' N' B' X' T'
  try dsimp only
  try k_fold
  k_steps
  all_goals (refine hret _ _ _ (fun b o e => Fr.keep (by assumption) b o (hG b o e)) (ret3 hG (by assumption) ?_ ?_ ?_) <;> simp only [rgbF, m1F, m2F, *, if_true, Bool.false_eq_true, if_false])
end
end
section
open PySem PySem.W PyProof.Rows PySem.Spec PySem.Calls
section

theorem Paired.imp {α β : Type} {F G : α → β → Prop} (h : ∀ a b, F a b → G a b) : ∀ {l₁ : List α} {l₂ : List β}, Paired F l₁ l₂ → Paired G l₁ l₂
  | _, _, .nil => .nil
  | _, _, .cons a t => .cons (h _ _ a) (Paired.imp h t)

/-- an element with the objects that it brought -/
def Brought (h₀ h : Heap) (no : Addr → Prop) (R : Value → Value → List (Addr × Obj) → Prop) (v y : Value) : Prop :=
  ∃ objs, R v y objs ∧ ∀ q ∈ objs, h.get? q.1 = some q.2 ∧ h₀.get? q.1 = none ∧ ¬ no q.1

/-- what an element's end must show -/
def EltEnd (R : Value → Value → List (Addr × Obj) → Prop) (v : Value) (s₃ : Shared) (y : Value) (s₄ : Shared) : Prop := Keeps s₃ s₄ ∧ Brought s₃.heap s₄.heap (fun _ => False) R v y
def TestEnd (b : Bool) (s₃ : Shared) (ok : Bool) (s₄ : Shared) : Prop := ok = b ∧ Keeps s₃ s₄
section
variable {prog : Program} {w : World} {A : Around} {s : Shared}

theorem compLoopG {Rz : Result → Shared → Prop} {elt iter : Expr} {x : Str} {px : Pos} {ifs : List Expr} {scope : Scope} {pos : Pos} {I D : Addr} {fp wr : List Addr} {n : Nat} {P : Nat → Value → Prop} {St : Nat → Heap → Prop}
    {cenv : Env} {m : Str → Option Value} (W : Walks prog w A I fp wr n P St) (p : Value → Bool) (R : Value → Value → List (Addr × Obj) → Prop)
    (hx : cenv.kindOf x = some .local) (hp : (cenv.scope.kind == .class || (cenv.scope.kind == .module && cenv.locals != cenv.globals)) = false)
    (hDC : D ≠ cenv.locals) (hDf : D ∉ fp) (hCf : cenv.locals ∉ fp) (hwr : ∀ i h, St i h → ∀ b ∈ wr, ∃ o, h.get? b = some o)
    (hst : St 0 s.heap) (hacc : s.heap.PlainList D #[]) (hn : s.heap.Ns cenv.locals m)
    (htests : ∀ i v h tk m₂, P i v → h.Ns cenv.locals m₂ → m₂ x = some v → (∀ b o, b ≠ cenv.locals → b ∉ wr → b ≠ D → s.heap.get? b = some o → h.get? b = some o) →
      wpAny (model prog w) A (forIn ifs true fun c r => if r = true then do let ok ← isTrue c cenv (eval c cenv); pure (ForInStep.yield ok) else pure (ForInStep.yield r))
        (TestEnd (p v) { s with heap := h, toks := tk }) (notedBy (model prog w) A cenv fun e s' => Rz (.error e) s') { s with heap := h, toks := tk })
    (helt : ∀ i v h tk m₂, P i v → p v = true → h.Ns cenv.locals m₂ → m₂ x = some v → (∀ b o, b ≠ cenv.locals → b ∉ wr → b ≠ D → s.heap.get? b = some o → h.get? b = some o) →
      wpAny (model prog w) A (eval elt cenv) (EltEnd R v { s with heap := h, toks := tk }) (notedBy (model prog w) A cenv fun e s' => Rz (.error e) s') { s with heap := h, toks := tk })
    (hR : ∀ h' tk m' ys (vs : List Value), h'.Ns cenv.locals m' → h'.PlainList D ys → vs.length = n → (∀ j v, vs[j]? = some v → P j v) →
      Paired (Brought (Heap.mk #[] {}) h' (fun b => b = cenv.locals ∨ b ∈ wr ∨ b = D ∨ ∃ o, b ≠ cenv.locals ∧ b ∉ wr ∧ b ≠ D ∧ s.heap.get? b = some o) R) (vs.filter p) ys.toList →
      (∀ b o, b ≠ cenv.locals → b ∉ wr → b ≠ D → s.heap.get? b = some o → h'.get? b = some o) → Rz (.ok .next) { s with heap := h', toks := tk })
    (hsz : n ≤ sizeLine) :
    codeAny (model prog w) A (.compLoop (.ListComp elt [⟨.Name x px, iter, ifs, 0⟩] scope pos) 0 (.ref I) (.ref D) cenv) Rz s := by
  let no : Addr → Prop := fun b => b = cenv.locals ∨ b ∈ wr ∨ b = D ∨ ∃ o, b ≠ cenv.locals ∧ b ∉ wr ∧ b ≠ D ∧ s.heap.get? b = some o
  have hCw : cenv.locals ∉ wr := fun h => hCf (W.sub _ h)
  have hDw : D ∉ wr := fun h => hDf (W.sub _ h)
  have hup : ∀ (h h' : Heap), (∀ b o, b ≠ cenv.locals → b ∉ wr → b ≠ D → h.get? b = some o → h'.get? b = some o) → ∀ v y, Brought (Heap.mk #[] {}) h no R v y → Brought (Heap.mk #[] {}) h' no R v y := by
    intro h h' hk v y HH5
    refine hide ?_
    intro GG bk
    obtain ⟨objs, hr, ho⟩ := HH5
    refine bk ?_
    clear bk
    refine ⟨objs, hr, fun q hq => ⟨hk _ _ (fun e => (ho q hq).2.2 (.inl e)) (fun e => (ho q hq).2.2 (.inr (.inl e))) (fun e => (ho q hq).2.2 (.inr (.inr (.inl e)))) (ho q hq).1, (ho q hq).2⟩⟩
  refine codeAny_compLoop_tests
    (fun k s' => ∃ h' tk m' ys, ∃ vs : List Value, s' = { s with heap := h', toks := tk } ∧ St vs.length h' ∧ h'.PlainList D ys ∧ h'.Ns cenv.locals m' ∧ (∀ j v, vs[j]? = some v → P j v) ∧
      Paired (Brought (Heap.mk #[] {}) h' no R) (vs.filter p) ys.toList ∧ vs.length ≤ n ∧ k = n + 1 - vs.length ∧
      (∀ b o, b ≠ cenv.locals → b ∉ wr → b ≠ D → s.heap.get? b = some o → h'.get? b = some o)) ?_ (n + 1)
    ⟨s.heap, s.toks, m, #[], [], rfl, hst, hacc, hn, by simp, by simpa using Paired.nil, Nat.zero_le _, rfl, fun _ _ _ _ _ e => e⟩
  intro k s' HH2
  refine hide ?_
  intro GG bk
  obtain ⟨H, tk, m', ys, vs, rfl, hst', hacc', hn', hP, hF, hi, rfl, hk⟩ := HH2
  refine bk ?_
  clear bk
  by_cases hlt : vs.length < n
  · refine W.item vs.length _ _ _ hlt hst' fun v h₁ tk₁ hPv hst₁ hk₁ => ?_
    refine wpAny_assign_Name (wpAny_storeName_local hx (hn'.at' fun o e => hk₁ _ o hCw e) (fun h₂ hn₂ hs₂ => ?_) hp)
    have up₂ : ∀ b o, b ≠ cenv.locals → b ∉ wr → H.get? b = some o → h₂.get? b = some o := fun b o hbC hbf e => hs₂.extBut b o hbC (hk₁ b o hbf e)
    have hst₂ : St (vs.length + 1) h₂ := W.frame _ _ _ hst₁ fun b hb o e => hs₂.extBut b o (fun h => hCf (h ▸ hb)) e
    refine wpAny_mono (htests vs.length v h₂ _ _ hPv hn₂ (by simp) (fun b o hbC hbf hbD e => up₂ b o hbC hbf (hk b o hbC hbf hbD e))) (fun ok s₃ h₃ => ?_) fun _ _ e => e
    refine hide ?_
    intro GG bk
    obtain ⟨rfl, h₃, tk₃, rfl, hk₃⟩ := h₃
    refine bk ?_
    clear bk
    have hst₃ : St (vs.length + 1) h₃ := W.frame _ _ _ hst₂ fun b _ o e => hk₃ b o e
    have hacc₃ : h₃.PlainList D ys := hacc'.at fun o e => hk₃ _ o (up₂ D o hDC hDw e)
    have hn₃ := hn₂.keeps hk₃
    have hP' : ∀ j u, (vs ++ [v])[j]? = some u → P j u := fun j u hj => by
      rcases Nat.lt_trichotomy j vs.length with h | h | h
      · exact hP j u (by rwa [List.getElem?_append_left h] at hj)
      · subst h; simp at hj; subst hj; exact hPv
      · have hnone : (vs ++ [v])[j]? = none := List.getElem?_eq_none (by rw [List.length_append, List.length_singleton]; omega)
        rw [hnone] at hj; cases hj
    have hl1 : (vs ++ [v]).length = vs.length + 1 := by simp
    cases hpv : p v with
    | false =>
      simp only [Bool.false_eq_true, if_false]
      refine ⟨n + 1 - (vs.length + 1), by omega, h₃, tk₃, _, ys, vs ++ [v], rfl, by rw [hl1]; exact hst₃, hacc₃, hn₃, hP', ?_, (by rw [hl1]; exact hlt), (by rw [hl1]), fun b o hbC hbf hbD e => hk₃ b o (up₂ b o hbC hbf (hk b o hbC hbf hbD e))⟩
      rw [List.filter_append]
      simp only [List.filter_cons, hpv, Bool.false_eq_true, if_false, List.filter_nil, List.append_nil]
      exact Paired.imp (hup _ _ fun b o h1 h2 _ e => hk₃ b o (up₂ b o h1 h2 e)) hF
    | true =>
      simp only [if_true]
      refine wpAny_mono (helt vs.length v h₃ tk₃ _ hPv hpv hn₃ (by simp) (fun b o hbC hbf hbD e => hk₃ b o (up₂ b o hbC hbf (hk b o hbC hbf hbD e)))) (fun y s₄ h₄ => ?_) fun _ _ e => e
      refine hide ?_
      intro GG bk
      obtain ⟨⟨h₄, tk₄, rfl, hk₄⟩, hBy⟩ := h₄
      refine bk ?_
      clear bk
      have hys : ys.size ≤ sizeLine := by
        have e1 := hF.length
        have e2 : (vs.filter p).length ≤ vs.length := List.length_filter_le _ _
        have e4 : ys.toList.length = ys.size := by simp
        omega
      have hst₄ : St (vs.length + 1) h₄ := W.frame _ _ _ hst₃ fun b _ o e => hk₄ b o e
      refine wpAny_list_append_plain (hsz := hys) (hacc₃.at fun o e => hk₄ _ o e) fun h₅ hl₅ hs₅ => ?_
      refine ⟨n + 1 - (vs.length + 1), by omega, h₅, tk₄, _, ys.push y, vs ++ [v], rfl, ?_, hl₅, (hn₃.keeps hk₄).sameBut hs₅ (Ne.symm hDC), hP', ?_, (by rw [hl1]; exact hlt), (by rw [hl1]),
        fun b o hbC hbf hbD e => hs₅.extBut b o hbD (hk₄ b o (hk₃ b o (up₂ b o hbC hbf (hk b o hbC hbf hbD e))))⟩
      · have := W.frame _ _ h₅ hst₄ fun b hb o e => hs₅.extBut b o (fun h => hDf (h ▸ hb)) e
        rw [hl1]; exact this
      · rw [List.filter_append]
        simp only [List.filter_cons, hpv, if_true, List.filter_nil, Array.toList_push]
        refine Paired.snoc (Paired.imp (hup _ _ fun b o h1 h2 h3 e => hs₅.extBut b o h3 (hk₄ b o (hk₃ b o (up₂ b o h1 h2 e)))) hF) ?_
        refine hide ?_
        intro GG bk
        obtain ⟨objs, hr, ho⟩ := hBy
        refine bk ?_
        clear bk
        refine ⟨objs, hr, fun q hq => ?_⟩
        refine hide ?_
        intro GG bk
        obtain ⟨q1, q2, _⟩ := ho q hq
        refine bk ?_
        clear bk
        have q2' : h₃.get? q.1 = none := q2
        have hno : ¬ no q.1 := by
          rintro (e | e | e | ⟨o, n1, n2, n3, e⟩)
          · refine hide ?_
            intro GG bk
            obtain ⟨oC, _, _, hoC, _⟩ := hn₃
            refine bk ?_
            clear bk
            rw [e, hoC] at q2'; cases q2'
          · obtain ⟨o, ho⟩ := hwr _ _ hst₃ _ e
            rw [ho] at q2'; cases q2'
          · obtain ⟨oD, hoD⟩ := hacc₃
            rw [e, hoD] at q2'; cases q2'
          · rw [hk₃ _ o (up₂ _ o n1 n2 (hk _ o n1 n2 n3 e))] at q2'; cases q2'
        refine ⟨hs₅.extBut _ _ (fun e => hno (.inr (.inr (.inl e)))) q1, rfl, hno⟩
  · have hin : vs.length = n := by omega
    refine W.done _ _ _ (hin ▸ hst') fun h₁ tk₁ hk₁ => ?_
    exact hR h₁ tk₁ m' ys vs (hn'.at' fun o e => hk₁ _ o hCw e) (hacc'.at fun o e => hk₁ _ o hDw e) hin hP (Paired.imp (hup _ _ fun b o _ h2 _ e => hk₁ b o h2 e) hF) fun b o hbC hbf hbD e => hk₁ b o hbf (hk b o hbC hbf hbD e)
end


section
variable {prog : Program} {w : World} {A : Around} {E : Value → Shared → Prop} {env : Env}
/-- the elements and tests of a comprehension, whatever the loop has done so far -/
structure QuietG (prog : Program) (w : World) (A : Around) (env : Env) (scope : Scope) (cl : List (Str × Addr)) (x : Str) (ifs : List Expr) (elt : Expr) (wr : List Addr) (P : Nat → Value → Prop) (p : Value → Bool)
    (R : Value → Value → List (Addr × Obj) → Prop) (s₂ : Shared) : Prop where
  tests : ∀ C i v h tk m₃ E', s₂.heap.get? C = none → P i v → h.Ns C m₃ → m₃ x = some v → (∀ b o, b ∉ wr → s₂.heap.get? b = some o → h.get? b = some o) →
    wpAny (model prog w) A (forIn ifs true fun c r => if r = true then do let ok ← isTrue c (compEnvC scope cl C env) (eval c (compEnvC scope cl C env)); pure (ForInStep.yield ok) else pure (ForInStep.yield r))
      (TestEnd (p v) { s₂ with heap := h, toks := tk }) E' { s₂ with heap := h, toks := tk }
  elt : ∀ C i v h tk m₃ E', s₂.heap.get? C = none → P i v → p v = true → h.Ns C m₃ → m₃ x = some v → (∀ b o, b ∉ wr → s₂.heap.get? b = some o → h.get? b = some o) →
    wpAny (model prog w) A (eval elt (compEnvC scope cl C env)) (EltEnd R v { s₂ with heap := h, toks := tk }) E' { s₂ with heap := h, toks := tk }

theorem compBlockG {elt iter : Expr} {x : Str} {px : Pos} {ifs : List Expr} {scope : Scope} {cl : List (Str × Addr)} {pos : Pos} {s₂ : Shared} {I : Addr} {fp wr : List Addr} {n : Nat} {P : Nat → Value → Prop} {St : Nat → Heap → Prop}
    (W : Walks prog w A I fp wr n P St) (hsz : n ≤ sizeLine) (hwr : ∀ i h, St i h → ∀ b ∈ wr, ∃ o, h.get? b = some o) (p : Value → Bool) (R : Value → Value → List (Addr × Obj) → Prop) {RR : Value → Addr → Result → Shared → Prop}
    (hcell : ∀ y ∈ scope.names, y.2 ≠ .cell) (hkind : scope.kind = .function) (hx : scope.names.lookup x = some .local) (hst : St 0 s₂.heap) (hfp : ∀ b ∈ fp, b < s₂.heap.objs.size)
    (hq : QuietG prog w A env scope cl x ifs elt wr P p R s₂)
    (hRR : ∀ D C h' tk m' ys (vs : List Value), s₂.heap.get? D = none → s₂.heap.get? C = none → D ≠ C → h'.Ns C m' → h'.PlainList D ys → vs.length = n → (∀ j v, vs[j]? = some v → P j v) → Paired (Brought s₂.heap h' (fun b => b = C ∨ b = D) R) (vs.filter p) ys.toList →
      (∀ b o, b ∉ wr → s₂.heap.get? b = some o → h'.get? b = some o) → RR (.ref D) C (.ok .next) { s₂ with heap := h', toks := tk }) :
    wpAny (model prog w) A (newList []) (fun acc s₃ => wpAny (model prog w) A (newFunctionEnv scope env.globals cl [] env.qual none .none (some env)) (fun cenv s₄ =>
      codeAny (model prog w) A (.compStart (.ListComp elt [⟨.Name x px, iter, ifs, 0⟩] scope pos) 0 (.ref I) acc { cenv with scope := relabel scope env }) (RR acc cenv.locals) s₄) E s₃) E s₂ := by
  refine wpAny_newObj_type (wpAny_newFunctionEnv hcell (by intro y hy; simp at hy) (fun h₁ hns₁ hsb₁ => ?_) hkind)
  dsimp only at hns₁ hsb₁ ⊢
  generalize hH2 : s₂.heap.push { cls := .type "list", dict := none, data := .seq ([] : List Value).toArray } = H2 at hns₁ hsb₁ ⊢
  have hC : H2.objs.size = s₂.heap.objs.size + 1 := by rw [← hH2, Heap.size_push]
  have hDC : s₂.heap.objs.size ≠ H2.objs.size := by rw [hC]; exact Nat.ne_of_lt (Nat.lt_succ_self _)
  have below : ∀ b, b < s₂.heap.objs.size → b ≠ H2.objs.size ∧ b ≠ s₂.heap.objs.size := fun b hb => ⟨by rw [hC]; exact Nat.ne_of_lt (Nat.lt_succ_of_lt hb), Nat.ne_of_lt hb⟩
  have hDf : s₂.heap.objs.size ∉ fp := fun hm => Nat.lt_irrefl _ (hfp _ hm)
  have hCf : H2.objs.size ∉ fp := fun hm => by have := hfp _ hm; rw [hC] at this; exact Nat.lt_irrefl _ (Nat.lt_of_succ_lt this)
  have old : ∀ b o, s₂.heap.get? b = some o → h₁.get? b = some o := fun b o e => hsb₁.extBut b o (below b (Heap.lt_size e)).1 (Heap.get?_push_of_some _ (hH2 ▸ Heap.get?_push_of_some _ e))
  have hacc : h₁.PlainList s₂.heap.objs.size #[] := ⟨_, hsb₁.extBut _ _ hDC (Heap.get?_push_of_some _ (hH2 ▸ Heap.get?_push_size _ rfl))⟩
  have hst₁ : St 0 h₁ := W.frame _ _ _ hst fun b _ o e => old b o e
  have fresh : ∀ a, s₂.heap.objs.size ≤ a → s₂.heap.get? a = none := fun a ha => by
    cases e : s₂.heap.get? a with
    | none => rfl
    | some o' => exact absurd (Heap.lt_size e) (Nat.not_lt.mpr ha)
  have fC : s₂.heap.get? H2.objs.size = none := fresh _ (by rw [hC]; exact Nat.le_succ _)
  have loop : ∀ s₃ : Shared, s₃ = { s₂ with heap := h₁, toks := s₂.toks + ([] : List (Str × Value)).length } →
      codeAny (model prog w) A (.compLoop (.ListComp elt [⟨.Name x px, iter, ifs, 0⟩] scope pos) 0 (.ref I) (.ref s₂.heap.objs.size) (compEnvC scope cl H2.objs.size env))
        (RR (.ref s₂.heap.objs.size) H2.objs.size) s₃ := by
    rintro s₃ rfl
    refine compLoopG (hsz := hsz) (cenv := compEnvC scope cl H2.objs.size env) W p R (lookup_relabel_local hx) (by simp [compEnvC, relabel, hkind]) hDC hDf hCf hwr hst₁ hacc hns₁
      (fun i v h tk m₃ hv hn hm hk => hq.tests _ i v h tk m₃ _ fC hv hn hm (fun b o hbf e => hk b o (below b (Heap.lt_size e)).1 hbf (below b (Heap.lt_size e)).2 (old b o e)))
      (fun i v h tk m₃ hv hpv hn hm hk => hq.elt _ i v h tk m₃ _ fC hv hpv hn hm (fun b o hbf e => hk b o (below b (Heap.lt_size e)).1 hbf (below b (Heap.lt_size e)).2 (old b o e))) fun h' tk m' ys vs hn hpl hlen hP hF hk => ?_
    refine hRR _ _ h' tk m' ys vs (fresh _ (Nat.le_refl _)) fC hDC hn hpl hlen hP (Paired.imp ?_ hF) fun b o hbf e =>
      hk b o (below b (Heap.lt_size e)).1 hbf (below b (Heap.lt_size e)).2 (old b o e)
    intro v y HH2
    refine hide ?_
    intro GG bk
    obtain ⟨objs, hr, ho⟩ := HH2
    refine bk ?_
    clear bk
    refine ⟨objs, hr, fun q hq => ⟨(ho q hq).1, ?_, fun e => (ho q hq).2.2 (e.elim .inl fun e => .inr (.inr (.inl e)))⟩⟩
    cases e : s₂.heap.get? q.1 with
    | none => rfl
    | some o =>
      refine absurd ?_ (ho q hq).2.2
      by_cases hw : q.1 ∈ wr
      · exact .inr (.inl hw)
      · exact .inr (.inr (.inr ⟨o, (below _ (Heap.lt_size e)).1, hw, (below _ (Heap.lt_size e)).2, old _ _ e⟩))
  exact codeAny_compStart_list (loop _ rfl) (W.self 0 _ _ _ hst₁ (loop _ rfl))

/-- the place behind a comprehension's source -/
def CompAt (prog : Program) (w : World) (A : Around) (env : Env) (scope : Scope) (cl : List (Str × Addr)) (x : Str) (ifs : List Expr) (elt : Expr) (p : Value → Bool) (R : Value → Value → List (Addr × Obj) → Prop) (Fin : Addr → Array Value → Nat → Shared → Prop) (it : Value) (s₂ : Shared) : Prop :=
  ∃ I fp wr n P St, it = .ref I ∧ Walks prog w A I fp wr n P St ∧ n ≤ sizeLine ∧ (∀ i h, St i h → ∀ b ∈ wr, ∃ o, h.get? b = some o) ∧ St 0 s₂.heap ∧ (∀ b ∈ fp, b < s₂.heap.objs.size) ∧
    QuietG prog w A env scope cl x ifs elt wr P p R s₂ ∧
    ∀ D h' tk k ys (vs : List Value), s₂.heap.get? D = none → h'.get? D = some { cls := .type "list", data := .seq ys k } → vs.length = n → (∀ j v, vs[j]? = some v → P j v) → Paired (Brought s₂.heap h' (· = D) R) (vs.filter p) ys.toList →
      (∀ b o, b ∉ wr → s₂.heap.get? b = some o → h'.get? b = some o) → Fin D ys k { s₂ with heap := h', toks := tk }

theorem compE {s : Shared} {elt iter : Expr} {x : Str} {px : Pos} {ifs : List Expr} {scope : Scope} {cl : List (Str × Addr)} {pos : Pos} {Q : Value → Shared → Prop} (p : Value → Bool) (R : Value → Value → List (Addr × Obj) → Prop)
    (hclos : closureFor scope env = pure cl) (hcell : ∀ y ∈ scope.names, y.2 ≠ .cell) (hkind : scope.kind = .function)
    (hnames : ∀ y ∈ scope.names, y.2 = .local → scope.names.lookup y.1 = some .local) (hx : scope.names.lookup x = some .local)
    (h : wpAny (model prog w) A (eval iter env) (fun xv s₁ => wpAny (model prog w) A (pyIter xv) (CompAt prog w A env scope cl x ifs elt p R fun D _ _ s' => Q (.ref D) s') E s₁) E s)
    (hs : ∀ x, foldedSetIterable iter env x = pure x := by intro _; rfl) :
    wpAny (model prog w) A (eval (.ListComp elt [⟨.Name x px, iter, ifs, 0⟩] scope pos) env) Q E s := by
  rw [eval_ListComp]
  refine wpAny_comprehension_free (use := none) rfl hs hclos hkind hnames (wpAny_mono h (fun xv s₁ h₁ => wpAny_mono h₁ (fun it s₂ h₂ => ?_) fun _ _ e => e) fun _ _ e => e)
  refine hide ?_
  intro GG bk
  obtain ⟨I, fp, wr, n, P, St, rfl, W, hsz, hwr, hst, hfp, hq, hQ⟩ := h₂
  refine bk ?_
  clear bk
  refine compBlockG (RR := fun acc C => compPost (model prog w) A E none Q acc C) W hsz hwr p R hcell hkind hx hst hfp hq ?_
  intro D C h' tk m' ys vs hD hC hDC hn hpl hlen hP hF hk
  refine ⟨m', hn, fun h'' hs'' => ?_⟩
  obtain ⟨k, hpl⟩ := hpl
  refine hQ D h'' tk k ys vs hD (hs''.extBut _ _ hDC hpl) hlen hP (Paired.imp ?_ hF) fun b o hbf e => hs''.extBut b o (by rintro rfl; rw [hC] at e; cases e) (hk b o hbf e)
  intro v y HH2
  refine hide ?_
  intro GG bk
  obtain ⟨objs, hr, ho⟩ := HH2
  refine bk ?_
  clear bk
  exact ⟨objs, hr, fun q hq => ⟨hs''.extBut _ _ (fun e => (ho q hq).2.2 (.inl e)) (ho q hq).1, (ho q hq).2.1, fun e => (ho q hq).2.2 (.inr e)⟩⟩

def CompAtA (prog : Program) (w : World) (A : Around) (env : Env) (scope : Scope) (cl : List (Str × Addr)) (x y : Str) (ifs : List Expr) (elt : Expr) (h₀ : Heap) (L : Addr) (m : Str → Option Value) (p : Value → Bool) (R : Value → Value → List (Addr × Obj) → Prop) (Q : Flow → Shared → Prop) (it : Value) (s₂ : Shared) : Prop :=
  ∃ I fp wr n P St, it = .ref I ∧ Walks prog w A I fp wr n P St ∧ n ≤ sizeLine ∧ (∀ i h, St i h → ∀ b ∈ wr, ∃ o, h.get? b = some o) ∧ St 0 s₂.heap ∧ (∀ b ∈ fp, b < s₂.heap.objs.size) ∧
    Fr h₀ L s₂.heap m ∧ L ∉ wr ∧ (∀ b ∈ wr, h₀.get? b = none) ∧ QuietG prog w A env scope cl x ifs elt wr P p R s₂ ∧
    ∀ D h' tk k ys (vs : List Value), s₂.heap.get? D = none → h'.get? D = some { cls := .type "list", data := .seq ys k } → vs.length = n → (∀ j v, vs[j]? = some v → P j v) → Paired (Brought s₂.heap h' (· = D) R) (vs.filter p) ys.toList →
      (∀ b o, b ∉ wr → b ≠ L → s₂.heap.get? b = some o → h'.get? b = some o) → Fr h₀ L h' (fun z => if z = y then some (.ref D) else m z) → Q .next { s₂ with heap := h', toks := tk }

theorem compA {s : Shared} {elt iter : Expr} {x y : Str} {px py : Pos} {ifs : List Expr} {scope : Scope} {cl : List (Str × Addr)} {pos spos : Pos} {h₀ : Heap} {L : Addr} {m : Str → Option Value} {Q : Flow → Shared → Prop}
    (_F₀ : Fr h₀ L s.heap m) (p : Value → Bool) (R : Value → Value → List (Addr × Obj) → Prop) (hLe : env.locals = L)
    (hsw : swapsWith (.ListComp elt [⟨.Name x px, iter, ifs, 0⟩] scope pos) (some (.Name y py)) spos.line env = pure true)
    (hclos : closureFor scope env = pure cl) (hcell : ∀ z ∈ scope.names, z.2 ≠ .cell) (hkind : scope.kind = .function)
    (hnames : ∀ z ∈ scope.names, z.2 = .local → scope.names.lookup z.1 = some .local) (hx : scope.names.lookup x = some .local)
    (hy : env.kindOf y = some .local) (hp : (env.scope.kind == .class || (env.scope.kind == .module && env.locals != env.globals)) = false)
    (h : wpAny (model prog w) A (eval iter env) (fun xv s₁ => wpAny (model prog w) A (pyIter xv) (CompAtA prog w A env scope cl x y ifs elt h₀ L m p R Q) E s₁) E s)
    (hs : ∀ x, foldedSetIterable iter env x = pure x := by intro _; rfl) :
    wpAny (model prog w) A (exec (.Assign [.Name y py] (.ListComp elt [⟨.Name x px, iter, ifs, 0⟩] scope pos) spos) env) Q E s := by
  subst hLe
  rw [exec_Assign_Name_used _ _ _ _ hsw]
  refine wpAny_bind (wpAny_standAt (wpAny_bind ?_))
  show wpAny _ A (do let _ ← comprehension (.ListComp elt [⟨.Name x px, iter, ifs, 0⟩] scope pos) scope env _ (newList []) false (eval iter env) (some (assign (.Name y py) env))) _ _ s
  refine wpAny_bind (wpAny_mono (wpAny_comprehension_free (use := some (assign (.Name y py) env)) (Q := fun _ s' => Q .next s') rfl hs hclos hkind hnames
    (wpAny_mono h (fun xv s₁ h₁ => wpAny_mono h₁ (fun it s₂ h₂ => ?_) fun _ _ e => e) fun _ _ e => e)) (fun _ s' hq => wpAny_pure (wpAny_pure hq)) fun _ _ e => e)
  refine hide ?_
  intro GG bk
  obtain ⟨I, fp, wr, n, P, St, rfl, W, hsz, hwr, hst, hfp, F₂, hLw, hw₀, hq, hQ⟩ := h₂
  refine bk ?_
  clear bk
  refine compBlockG (RR := fun acc C => compPost (model prog w) A E (some (assign (.Name y py) env)) (fun _ s' => Q .next s') acc C) W hsz hwr p R hcell hkind hx hst hfp hq ?_
  intro D C h' tk m' ys vs hD hC hDC hnC hpl hlen hP hF hk
  obtain ⟨k, hpl⟩ := hpl
  refine hide ?_
  intro GG bk
  obtain ⟨oL, _, _, hoL, _⟩ := F₂.ns
  refine bk ?_
  clear bk
  have hLC : env.locals ≠ C := by rintro e; rw [← e, hoL] at hC; cases hC
  have hLD : env.locals ≠ D := by rintro e; rw [← e, hoL] at hD; cases hD
  have hC₀ : h₀.get? C = none := by
    cases e : h₀.get? C with
    | none => rfl
    | some o => rw [F₂.keep _ _ e] at hC; cases hC
  have F' : Fr h₀ env.locals h' m := ⟨F₂.ns.at' fun o e => hk _ o hLw e, fun b o e => hk b o (fun hb => by rw [hw₀ b hb] at e; cases e) (F₂.keep b o e), F₂.above⟩
  show wpAny _ A (assign (.Name y py) env (.ref D)) _ _ _
  refine wpAny_assign_Name (wpAny_storeName_local hy F'.ns (fun h₂ hn₂ hs₂ => ?_) hp)
  have F₃ := F'.set hn₂ hs₂
  refine ⟨m', hnC.sameBut hs₂ (Ne.symm hLC), fun h₃ hs₃ => ?_⟩
  refine hQ D h₃ _ k ys vs hD (hs₃.extBut _ _ hDC (hs₂.extBut _ _ (Ne.symm hLD) hpl)) hlen hP (Paired.imp ?_ hF) (fun b o hb1 hb2 e => hs₃.extBut b o (by rintro rfl; rw [hC] at e; cases e) (hs₂.extBut b o hb2 (hk b o hb1 e))) (F₃.change hs₃ (Ne.symm hLC) hC₀)
  intro v z HH2
  refine hide ?_
  intro GG bk
  obtain ⟨objs, hr, ho⟩ := HH2
  refine bk ?_
  clear bk
  refine ⟨objs, hr, fun q hq => ⟨hs₃.extBut _ _ (fun e => (ho q hq).2.2 (.inl e)) (hs₂.extBut _ _ (fun e => ?_) (ho q hq).1), (ho q hq).2.1, fun e => (ho q hq).2.2 (.inr e)⟩⟩
  have := (ho q hq).2.1
  rw [e, hoL] at this; cases this
end

section
variable {prog : Program} {w : World} {A : Around} {E : Value → Shared → Prop} {s : Shared} {env : Env} {h₀ : Heap} {L : Addr} {m : Str → Option Value} {news : List (Addr × Obj)}
abbrev listOf (ys : Array Value) (k : Nat) : Obj := { cls := .type "list", data := .seq ys k }

/-- the tests and elements as the walk meets them -/
structure Elts (prog : Program) (w : World) (A : Around) (env : Env) (scope : Scope) (cl : List (Str × Addr)) (x : Str) (ifs : List Expr) (elt : Expr) (h₀ : Heap) (L : Addr) (m : Str → Option Value) (news : List (Addr × Obj)) (P : Nat → Value → Prop) (p : Value → Bool)
    (R : Value → Value → List (Addr × Obj) → Prop) (s : Shared) : Prop where
  tests : ∀ C oC i v h tk m₃ E', P i v → LCg.NsObj oC m₃ → m₃ x = some v → Fr h₀ L h m → News h₀ L h ((C, oC) :: news) → (∀ q ∈ news, q.1 ≠ C) → Up s.heap h →
    wpAny (model prog w) A (forIn ifs true fun c r => if r = true then do let ok ← isTrue c (compEnvC scope cl C env) (eval c (compEnvC scope cl C env)); pure (ForInStep.yield ok) else pure (ForInStep.yield r))
      (TestEnd (p v) { s with heap := h, toks := tk }) E' { s with heap := h, toks := tk }
  elt : ∀ C oC i v h tk m₃ E', P i v → p v = true → LCg.NsObj oC m₃ → m₃ x = some v → Fr h₀ L h m → News h₀ L h ((C, oC) :: news) → (∀ q ∈ news, q.1 ≠ C) → Up s.heap h →
    wpAny (model prog w) A (eval elt (compEnvC scope cl C env)) (EltEnd R v { s with heap := h, toks := tk }) E' { s with heap := h, toks := tk }

theorem Elts.quiet {scope : Scope} {cl : List (Str × Addr)} {x : Str} {ifs : List Expr} {elt : Expr} {P : Nat → Value → Prop} {p : Value → Bool} {R : Value → Value → List (Addr × Obj) → Prop} (F : Fr h₀ L s.heap m) (N : News h₀ L s.heap news) {I : Addr} (hI : s.heap.get? I = none)
    (X : Elts prog w A env scope cl x ifs elt h₀ L m news P p R s) (H : Heap) (hH : ∀ b o, s.heap.get? b = some o → H.get? b = some o) : QuietG prog w A env scope cl x ifs elt [I] P p R { s with heap := H } := by
  have up : ∀ h : Heap, (∀ b o, b ∉ [I] → H.get? b = some o → h.get? b = some o) → Up s.heap h := fun h hk b o e => hk b o (by simp only [List.mem_singleton]; intro q; rw [q, hI] at e; cases e) (hH b o e)
  have newC : ∀ C, H.get? C = none → s.heap.get? C = none := fun C hC => by
    cases e : s.heap.get? C with
    | none => rfl
    | some o => rw [hH _ _ e] at hC; cases hC
  refine ⟨fun C i v h tk m₃ E' hC hP hn hx hk => ?_, fun C i v h tk m₃ E' hC hP hp hn hx hk => ?_⟩
  · obtain ⟨oC, hoC, hN⟩ := LCg.ns_obj hn
    have u := up h hk
    exact X.tests C oC i v h tk m₃ E' hP hN hx (F.keeps u) (join F (newC C hC) hoC (N.grown u)) (apart (newC C hC) N) u
  · obtain ⟨oC, hoC, hN⟩ := LCg.ns_obj hn
    have u := up h hk
    exact X.elt C oC i v h tk m₃ E' hP hp hN hx (F.keeps u) (join F (newC C hC) hoC (N.grown u)) (apart (newC C hC) N) u

theorem vs_eq {items : Array Value} {vs : List Value} (hl : vs.length = items.size) (hP : ∀ (j : Nat) (v : Value), vs[j]? = some v → items[j]? = some v) : vs = items.toList := by
  apply List.ext_getElem?
  intro i
  cases e : vs[i]? with
  | some v => rw [Array.getElem?_toList]; exact (hP i v e).symm
  | none =>
    have : vs.length ≤ i := List.getElem?_eq_none_iff.mp e
    rw [Array.getElem?_toList]
    exact (Array.getElem?_eq_none (by omega)).symm

/-- what the walk has behind a comprehension over a list or a tuple -/
def CompFin (h₀ : Heap) (L : Addr) (news : List (Addr × Obj)) (R : Value → Value → List (Addr × Obj) → Prop) (its : List Value) (s : Shared) (Q : Addr → Array Value → Nat → Shared → Prop) (m' : Addr → Str → Option Value) : Prop :=
  ∀ D h' tk k ys, Fr h₀ L h' (m' D) → News h₀ L h' ((D, listOf ys k) :: news) → (∀ q ∈ news, q.1 ≠ D) → (∀ b o, b ≠ L → s.heap.get? b = some o → h'.get? b = some o) → s.heap.get? D = none →
    Paired (Brought s.heap h' (· = D) R) its ys.toList → Q D ys k { s with heap := h', toks := tk }

theorem brought_weak {H g h' : Heap} {no : Addr → Prop} {R : Value → Value → List (Addr × Obj) → Prop} {v y : Value} (u : ∀ b o, g.get? b = some o → H.get? b = some o) (x : Brought H h' no R v y) : Brought g h' no R v y := by
  obtain ⟨objs, hr, ho⟩ := x
  refine ⟨objs, hr, fun q hq => ⟨(ho q hq).1, ?_, (ho q hq).2.2⟩⟩
  cases e : g.get? q.1 with
  | none => rfl
  | some o => have := (ho q hq).2.1; rw [u _ _ e] at this; cases this

theorem iterTupE {scope : Scope} {cl : List (Str × Addr)} {x : Str} {ifs : List Expr} {elt : Expr} {a : Addr} {items : Array Value} {p : Value → Bool} {R : Value → Value → List (Addr × Obj) → Prop} {Fin : Addr → Array Value → Nat → Shared → Prop}
    (hh : A.handled = none) (F : Fr h₀ L s.heap m) (N : News h₀ L s.heap news) (hT : s.heap.IsTuple a items) (hsz : items.size ≤ sizeLine)
    (X : Elts prog w A env scope cl x ifs elt h₀ L m news (fun i v => items[i]? = some v) p R s)
    (fin : CompFin h₀ L news R (items.toList.filter p) s Fin (fun _ => m)) :
    wpAny (model prog w) A (pyIter (.ref a)) (CompAt prog w A env scope cl x ifs elt p R Fin) E s := by
  have hI : s.heap.get? s.heap.objs.size = none := Heap.get?_none_of_le (Nat.le_refl _)
  refine hide ?_
  intro GG bk
  obtain ⟨oa, hoa, _⟩ := id hT
  refine bk ?_
  clear bk
  have hlt := Heap.lt_size hoa
  refine wpAny_pyIter_tuple hT ?_
  refine ⟨_, _, _, _, _, _, rfl, Walks.tuple hh s.heap.objs.size a (Nat.ne_of_lt hlt) items, hsz, fun i h st b hb => ?_, ⟨⟨_, Heap.get?_push_size _ rfl, rfl, rfl⟩, hT.push _⟩, fun b hb => ?_, X.quiet F N hI _ fun b o e => Heap.get?_push_of_some _ e, ?_⟩
  · rw [List.mem_singleton.mp hb]
    refine hide ?_
    intro GG bk
    obtain ⟨o, e, _⟩ := st.1
    refine bk ?_
    clear bk
    exact ⟨o, e⟩
  · show b < (s.heap.push _).objs.size
    rw [Heap.size_push]
    rcases List.mem_cons.mp hb with rfl | hb
    · exact Nat.lt_succ_self _
    · rw [List.mem_singleton.mp hb]; exact Nat.lt_succ_of_lt hlt
  · intro D h' tk k ys vs hD hD' hl hP hF hk
    have up : Up s.heap h' := fun b o e => hk b o (by simp only [List.mem_singleton]; exact Nat.ne_of_lt (Heap.lt_size e)) (Heap.get?_push_of_some _ e)
    have hDs : s.heap.get? D = none := by
      cases e : s.heap.get? D with
      | none => rfl
      | some o => rw [Heap.get?_push_of_some _ e] at hD; cases hD
    rw [vs_eq hl hP] at hF
    exact fin D h' tk k ys (F.keeps up) (join F hDs hD' (N.grown up)) (apart hDs N) (fun b o _ e => up b o e) hDs (Paired.imp (fun _ _ => brought_weak fun b o e => Heap.get?_push_of_some _ e) hF)
theorem iterListE {scope : Scope} {cl : List (Str × Addr)} {x : Str} {ifs : List Expr} {elt : Expr} {a : Addr} {items : Array Value} {p : Value → Bool} {R : Value → Value → List (Addr × Obj) → Prop} {Fin : Addr → Array Value → Nat → Shared → Prop}
    (hh : A.handled = none) (F : Fr h₀ L s.heap m) (N : News h₀ L s.heap news) (hT : s.heap.IsList a items) (hsz : items.size ≤ sizeLine)
    (X : Elts prog w A env scope cl x ifs elt h₀ L m news (fun i v => items[i]? = some v) p R s)
    (fin : CompFin h₀ L news R (items.toList.filter p) s Fin (fun _ => m)) :
    wpAny (model prog w) A (pyIter (.ref a)) (CompAt prog w A env scope cl x ifs elt p R Fin) E s := by
  have hI : s.heap.get? s.heap.objs.size = none := Heap.get?_none_of_le (Nat.le_refl _)
  refine hide ?_
  intro GG bk
  obtain ⟨oa, hoa, _⟩ := id hT
  refine bk ?_
  clear bk
  have hlt := Heap.lt_size hoa
  refine wpAny_pyIter_list hT ?_
  refine ⟨_, _, _, _, _, _, rfl, Walks.list hh s.heap.objs.size a (Nat.ne_of_lt hlt) items, hsz, fun i h st b hb => ?_, ⟨⟨_, Heap.get?_push_size _ rfl, rfl, rfl⟩, hT.push _⟩, fun b hb => ?_, X.quiet F N hI _ fun b o e => Heap.get?_push_of_some _ e, ?_⟩
  · rw [List.mem_singleton.mp hb]
    refine hide ?_
    intro GG bk
    obtain ⟨o, e, _⟩ := st.1
    refine bk ?_
    clear bk
    exact ⟨o, e⟩
  · show b < (s.heap.push _).objs.size
    rw [Heap.size_push]
    rcases List.mem_cons.mp hb with rfl | hb
    · exact Nat.lt_succ_self _
    · rw [List.mem_singleton.mp hb]; exact Nat.lt_succ_of_lt hlt
  · intro D h' tk k ys vs hD hD' hl hP hF hk
    have up : Up s.heap h' := fun b o e => hk b o (by simp only [List.mem_singleton]; exact Nat.ne_of_lt (Heap.lt_size e)) (Heap.get?_push_of_some _ e)
    have hDs : s.heap.get? D = none := by
      cases e : s.heap.get? D with
      | none => rfl
      | some o => rw [Heap.get?_push_of_some _ e] at hD; cases hD
    rw [vs_eq hl hP] at hF
    exact fin D h' tk k ys (F.keeps up) (join F hDs hD' (N.grown up)) (apart hDs N) (fun b o _ e => up b o e) hDs (Paired.imp (fun _ _ => brought_weak fun b o e => Heap.get?_push_of_some _ e) hF)
theorem iterListA {scope : Scope} {cl : List (Str × Addr)} {x y : Str} {ifs : List Expr} {elt : Expr} {a : Addr} {items : Array Value} {p : Value → Bool} {R : Value → Value → List (Addr × Obj) → Prop} {Q : Flow → Shared → Prop}
    (hh : A.handled = none) (F : Fr h₀ L s.heap m) (N : News h₀ L s.heap news) (hT : s.heap.IsList a items) (hsz : items.size ≤ sizeLine)
    (X : Elts prog w A env scope cl x ifs elt h₀ L m news (fun i v => items[i]? = some v) p R s)
    (fin : CompFin h₀ L news R (items.toList.filter p) s (fun _ _ _ s' => Q .next s') (fun D z => if z = y then some (.ref D) else m z)) :
    wpAny (model prog w) A (pyIter (.ref a)) (CompAtA prog w A env scope cl x y ifs elt h₀ L m p R Q) E s := by
  have hI : s.heap.get? s.heap.objs.size = none := Heap.get?_none_of_le (Nat.le_refl _)
  refine hide ?_
  intro GG bk
  obtain ⟨oa, hoa, _⟩ := id hT
  refine bk ?_
  clear bk
  have hlt := Heap.lt_size hoa
  have u1 : ∀ o', Up s.heap (s.heap.push o') := fun o' b o e => Heap.get?_push_of_some _ e
  refine wpAny_pyIter_list hT ?_
  refine ⟨_, _, _, _, _, _, rfl, Walks.list hh s.heap.objs.size a (Nat.ne_of_lt hlt) items, hsz, fun i h st b hb => ?_, ⟨⟨_, Heap.get?_push_size _ rfl, rfl, rfl⟩, hT.push _⟩, fun b hb => ?_, F.keeps (u1 _), ?_, fun b hb => ?_, X.quiet F N hI _ fun b o e => Heap.get?_push_of_some _ e, ?_⟩
  · rw [List.mem_singleton.mp hb]
    refine hide ?_
    intro GG bk
    obtain ⟨o, e, _⟩ := st.1
    refine bk ?_
    clear bk
    exact ⟨o, e⟩
  · show b < (s.heap.push _).objs.size
    rw [Heap.size_push]
    rcases List.mem_cons.mp hb with rfl | hb
    · exact Nat.lt_succ_self _
    · rw [List.mem_singleton.mp hb]; exact Nat.lt_succ_of_lt hlt
  · simp only [List.mem_singleton]; exact Nat.ne_of_lt F.ns.lt
  · rw [List.mem_singleton.mp hb]; exact next_is_new F
  · intro D h' tk k ys vs hD hD' hl hP hF hk F'
    have up : ∀ b o, b ≠ L → s.heap.get? b = some o → h'.get? b = some o := fun b o hb e => hk b o (by simp only [List.mem_singleton]; exact Nat.ne_of_lt (Heap.lt_size e)) hb (Heap.get?_push_of_some _ e)
    have hDs : s.heap.get? D = none := by
      cases e : s.heap.get? D with
      | none => rfl
      | some o => rw [Heap.get?_push_of_some _ e] at hD; cases hD
    rw [vs_eq hl hP] at hF
    exact fin D h' tk k ys F' (join F hDs hD' fun q hq => ⟨up _ _ (N q hq).2.1 (N q hq).1, (N q hq).2⟩) (apart hDs N) up hDs (Paired.imp (fun _ _ => brought_weak fun b o e => Heap.get?_push_of_some _ e) hF)
end
theorem listOf_is {h : Heap} {a : Addr} {items : Array Value} {k : Nat} (e : h.get? a = some (listOf items k)) : h.IsList a items := ⟨_, e, rfl, _, rfl⟩
theorem ints3 {a b c : Int} {t u x : Tok} : IntsAre [.int a t, .int b u, .int c x] [a, b, c] := .cons _ _ (.cons _ _ (.cons _ _ .nil))
end
end
section
open PySem PySem.W PyProof.Rows PySem.Spec PySem.Calls
section
theorem top_off_F4 : True := by
  w_top off
  k_with_none
  trivial
theorem lines_F4_1 : True := by
  (k_with "mine subscriptTail Name Constant ref int" => (k_here; (with_reducible show wpAny _ _ (subscriptTail _ _ (Value.ref _) (Value.int _ _)) _ _ _); (with_unfolding_all refine' item_base ?k1_h ?k2_h ?k3_h ?k4_h ?k5_h ?_ ?k6_h; (case k1_h => k_asm); (case k2_h => assumption); (case k3_h => decide); (case k4_h => decide); (case k5_h => first | exact at3_0 | exact at3_1 | exact at3_2); (case k6_h => with_unfolding_all rfl); k_whole)))
  (k_with "mine call ref" => (k_here; (with_reducible show wpAny _ _ (call (Value.ref 70) [Value.float _ _, Value.float _ _, Value.float _ _]) _ _ _); k_dflt (refine' useS (rgb_spec _ _ _ _ _ _ _) ?k1_h ?k2_h ?k3_h ?k4_h ?k5_h ?kK_h ?kd_h ?ku_h ?kp_h ?_; (((case k1_h => k_asm); (case k2_h => k_asm); (case k3_h => k_asm); (case k4_h => k_asm); (case k5_h => k_asm); (case kK_h => first | exact rfl | assumption); (case kd_h => ktr_room); (case ku_h => ktr_units))); (case kp_h => assumption); k_whole); intro r_q h_q tk_q F_q N_q up_q out_q; obtain ⟨t', u1', u2', u3', e', fr', ob'⟩ := out_q; subst e'; (have N'' := join (by assumption) fr' ob' N_q); clear N_q; clear up_q fr' ob'; (try dsimp only); (try k_sweep); (try k_fold)))
  (k_with "mine call ref" => (k_here; (with_reducible show wpAny _ _ (call (Value.ref 77) [Value.float _ _, Value.float _ _, Value.float _ _]) _ _ _); k_dflt (refine' useS (hls_spec _ _ _ _ _ _ _) ?k1_h ?k2_h ?k3_h ?k4_h ?k5_h ?kK_h ?kd_h ?ku_h ?kp_h ?_; (((case k1_h => k_asm); (case k2_h => k_asm); (case k3_h => k_asm); (case k4_h => k_asm); (case k5_h => k_asm); (case kK_h => first | exact rfl | assumption); (case kd_h => ktr_room); (case ku_h => ktr_units))); (case kp_h => exact trivial); k_whole); intro r_q h_q tk_q F_q N_q up_q out_q; obtain ⟨t', u1', u2', u3', e', fr', ob'⟩ := out_q; subst e'; (have N'' := join (by assumption) fr' ob' N_q); (have ne' := apart fr' (by assumption)); clear N_q; clear up_q fr' ob'; (try simp only [List.forall_mem_cons, List.not_mem_nil, false_implies, implies_true, and_true] at ne'); (try dsimp only); (try k_sweep); (try k_fold)))
  trivial
theorem paired3 {F : Value → Value → Prop} {a b c : Value} {l : List Value} (h : Paired F [a, b, c] l) : ∃ x y z, l = [x, y, z] ∧ F a x ∧ F b y ∧ F c z := by
  cases h with
  | cons h1 t => cases t with
    | cons h2 t => cases t with
      | cons h3 t => cases t; exact ⟨_, _, _, rfl, h1, h2, h3⟩
abbrev eighth (x : Int) : UInt64 := Float64.ofFrac (decide (x < 0) != decide ((8 : Int) < 0)) x.natAbs (Int.natAbs 8)
def overOk (x y z : Int) : Prop := ¬ Float64.isInf (eighth x) = true ∧ ¬ Float64.isInf (eighth y) = true ∧ ¬ Float64.isInf (eighth z) = true ∧ hlsOk (eighth x) (eighth y) (eighth z) = true
def R8 (v y : Value) (objs : List (Addr × Obj)) : Prop := ∃ a t u, v = .float a t ∧ y = .float (Float64.mul a (Float64.ofInt 8)) u ∧ objs = []
theorem lines_F4_2 : True := by
  (k_with "mine eval ListComp" => (k_here; k_dflt (refine compE (fun _ => true) R8 (by rfl) (by decide) (by rfl) (by decide) (by rfl) ?_)))
  trivial
theorem eighth3 {F : Value → Value → Prop} {ys : Array Value} {a b c : Value} (h : Paired F ((#[a, b, c] : Array Value).toList.filter fun _ => true) ys.toList) : ∃ x y z, ys = #[x, y, z] ∧ F a x ∧ F b y ∧ F c z := by
  obtain ⟨x, y, z, e, h⟩ := paired3 h
  exact ⟨x, y, z, by rw [← Array.toArray_toList (xs := ys), e], h⟩
/-- what _law_over gives back: the light, in sixteenths, and the colour turned over, in eighths -/
def overF (x y z : Int) : UInt64 × UInt64 × UInt64 × UInt64 :=
  let q := hlsF (eighth x) (eighth y) (eighth z)
  let o := rgbF q.1 (Float64.sub 4607182418800017408 q.2.1) q.2.2
  (Float64.mul q.2.1 (Float64.ofInt 16), Float64.mul o.1 (Float64.ofInt 8), Float64.mul o.2.1 (Float64.ofInt 8), Float64.mul o.2.2 (Float64.ofInt 8))
theorem over_spec (w : World) (l : Addr) (x y z : Int) (t1 t2 t3 : Tok) : SpecS w 3 24 (.ref 167) [.ref l] (fun h => h.IsList l #[.int x t1, .int y t2, .int z t3] ∧ overOk x y z)
    (fun h r h' => ∃ t d u u1 u2 u3 k, r = .ref t ∧ h.get? t = none ∧ h.get? d = none ∧ h'.get? t = some (tup [.float (overF x y z).1 u, .ref d]) ∧ h'.get? d = some (listOf #[.float (overF x y z).2.1 u1, .float (overF x y z).2.2.1 u2, .float (overF x y z).2.2.2 u3] k)) := by
  unfold SpecS
  intro p lz mean mg mb dp un gd cn cs a ccd cl outer A₀ base h₀ L m s Q E H hdp hu hok hret
  refine hide ?_
  intro GG bk
  obtain ⟨B, F, X, T, hk⟩ := H
  refine bk ?_
  clear bk
  ((refine wpAny_call ?_; k_dflt (refine' enterS ?k1 ?k2 ?k3 ?k5 ?kA ?kF ?kK ?k6 ?k7 ?k8 ?k9 ?kB ?_ ?c2 ?c3 ?c4 ?c5; (case kA => exact rfl); (case kF => exact rfl); (case kK => assumption); (case k1 => k_asm); (case k2 => k_asm); (case k3 => k_asm); (case k5 => k_asm); (case k6 => k_is); (case k7 => k_is); (case k8 => ktr_room); (case k9 => exact BindsTo.of_eq rfl); (case c5 => decide); (case kB => exact locs rfl); (case c2 => exact rfl); (case c3 => exact rfl); (case c4 => exact rfl); k_whole)))
  intro g' L' h' hG FG' F' N' B' X' T'
  refine hide ?_
  intro GG bk
  obtain ⟨hl, hx, hy, hz, ho⟩ := hok
  refine bk ?_
  clear bk
  have hl := hl.at fun o e => hG _ o e
  try dsimp only
  try k_fold
  k_steps
  all_goals try (exact absurd (by assumption) hx)
  all_goals try (exact absurd (by assumption) hy)
  all_goals try (exact absurd (by assumption) hz)
  rename Fr g' L' _ _ => F8
  rename News g' L' _ _ => N8
  have T8 := tup_is (N8.get (List.mem_cons_self ..))
  refine iterTupE rfl F8 N8 T8 (by show 3 ≤ sizeLine; decide) ⟨?_, ?_⟩ ?_
  · intros; exact wpAny_tests_nil ⟨rfl, _, _, rfl, fun b o e => e⟩
  · intro C oC i v h tk m₃ E' hP hp hN hx9 F9 N9 ne9 up9
    obtain ⟨t9, rfl⟩ := fAt_of hP
    try dsimp only
    try k_fold
    k_steps
    exact ⟨⟨_, _, rfl, fun b o e => e⟩, [], ⟨_, _, _, rfl, rfl, rfl⟩, by simp⟩
  · intro D h9 tk9 k9 ys F9 N9 ne9 up9 fr9 hF9
    refine hide ?_
    intro GG bk
    obtain ⟨x1, x2, x3, rfl, ⟨_, ⟨_, _, _, e1, rfl, _⟩, _⟩, ⟨_, ⟨_, _, _, e2, rfl, _⟩, _⟩, ⟨_, ⟨_, _, _, e3, rfl, _⟩, _⟩⟩ := eighth3 hF9
    refine bk ?_
    clear bk
    cases e1; cases e2; cases e3
    try dsimp only
    try k_fold
    k_steps
    rename Fr g' L' _ _ => F8
    rename News g' L' _ _ => N8
    have n1 := N8 _ (List.mem_cons_self ..)
    have n2 := N8 _ (List.mem_cons_of_mem _ (List.mem_cons_self ..))
    exact hret _ _ _ (fun b o e => F8.keep b o (hG b o e)) ⟨_, D, _, _, _, _, _, rfl, fresh_up hG n1.2.2, fresh_up hG n2.2.2, n1.1, n2.1⟩
end
end
section
open PySem PySem.W PyProof.Rows PySem.Spec PySem.Calls
section
theorem top_off_F5 : True := by
  w_top off
  k_with_none
  trivial

theorem lines_F5_1 : True := by
  (k_with "mine subscriptTail Name Constant ref int" => (k_here; (with_reducible show wpAny _ _ (subscriptTail _ _ (Value.ref _) (Value.int _ _)) _ _ _); (with_unfolding_all refine' item_base ?k1_h ?k2_h ?k3_h ?k4_h ?k5_h ?_ ?k6_h; (case k1_h => k_asm); (case k2_h => assumption); (case k3_h => decide); (case k4_h => decide); (case k5_h => first | exact at3_0 | exact at3_1 | exact at3_2); (case k6_h => with_unfolding_all rfl); k_whole)))
  (k_with "mine call builtin:min" => (k_here; (with_reducible show wpAny _ _ (call (Value.builtin _) [Value.ref _]) _ _ _); k_dflt (refine' minLK ?k1_h ?k2_h ?k3_h ?k4_h ?_; (case k1_h => k_asm); (case k2_h => k_asm); (case k3_h => exact rfl); (case k4_h => assumption); k_whole); intro y_q h_q tk_q F_q N_q; (try dsimp only); (try k_sweep)))
  (k_with "mine call builtin:max" => (k_here; (with_reducible show wpAny _ _ (call (Value.builtin _) [Value.ref _]) _ _ _); k_dflt (refine' maxLK ?k1_h ?k2_h ?k3_h ?k4_h ?_; (case k1_h => k_asm); (case k2_h => k_asm); (case k3_h => exact rfl); (case k4_h => assumption); k_whole); intro y_q h_q tk_q F_q N_q; (try dsimp only); (try k_sweep)))
  (k_with "mine eval ListComp" => (k_here; refine Halt.out ?_))
  (k_with "mine exec Assign cons ListComp" => (k_here; refine Halt.out ?_))
  trivial
def Rmv (mv : Int) (v y : Value) (objs : List (Addr × Obj)) : Prop := ∃ a t u, v = .int a t ∧ y = .int (a + mv) u ∧ objs = []
def moveI (x y z : Int) : Int := 8 - min (min x y) z - max (max x y) z
theorem turned_spec (w : World) (l : Addr) (x y z : Int) (t1 t2 t3 : Tok) : SpecS w 1 8 (.ref 155) [.ref l] (fun h => h.IsList l #[.int x t1, .int y t2, .int z t3])
    (fun h r h' => ∃ d u1 u2 u3 k, r = .ref d ∧ h.get? d = none ∧ h'.get? d = some (listOf #[.int (x + moveI x y z) u1, .int (y + moveI x y z) u2, .int (z + moveI x y z) u3] k)) := by
  unfold SpecS
  intro p lz mean mg mb dp un gd cn cs a ccd cl outer A₀ base h₀ L m s Q E H hdp hu hok hret
  refine hide ?_
  intro GG bk
  obtain ⟨B, F, X, T, hk⟩ := H
  refine bk ?_
  clear bk
  ((refine wpAny_call ?_; k_dflt (refine' enterC (news := []) ?k1 ?k2 ?k3 News.nil ?k5 ?kA ?kF ?kK ?k6 ?k7 ?k8 ?k9 ?kB ?kD ?_ ?c2 ?c3 ?c4; (case kA => exact rfl); (case kF => exact rfl); (case kK => assumption); (case k1 => k_asm); (case k2 => k_asm); (case k3 => k_asm); (case k5 => k_asm); (case k6 => k_is); (case k7 => k_is); (case k8 => ktr_room); (case k9 => exact BindsTo.of_eq rfl); (case kB => exact rfl); (case kD => decide +kernel); (case c2 => exact rfl); (case c3 => exact rfl); (case c4 => exact rfl); k_whole)))
  intro g' L' h' tk' cells' hG _ FG' F' N' Y' B' X' T' _
  replace hG : Up s.heap g' := fun b o e => hG b o e (by simp)
  k_cells Y'
  try simp only [List.cons_append, List.nil_append] at N'
  have hl := hok.at fun o e => hG _ o e
  try dsimp only
  try k_fold
  k_steps
  refine Halt.mk (compE (fun _ => true) (Rmv (moveI x y z)) (by rfl) (by decide) (by rfl) (by decide) (by rfl) ?_)
  k_steps
  rename Fr g' L' _ _ => F8
  rename News g' L' _ _ => N8
  have T8 := hl.at fun o e => F8.keep _ o e
  refine iterListE rfl F8 N8 T8 (by show 3 ≤ sizeLine; decide) ⟨?_, ?_⟩ ?_
  · intros; exact wpAny_tests_nil ⟨rfl, _, _, rfl, fun b o e => e⟩
  · intro C oC i v h tk m₃ E' hP hp hN hx9 F9 N9 ne9 up9
    obtain ⟨t9, rfl⟩ := iAt_of hP
    try dsimp only
    try k_fold
    k_steps
    exact ⟨⟨_, _, rfl, fun b o e => e⟩, [], ⟨_, _, _, rfl, rfl, rfl⟩, by simp⟩
  · intro D h9 tk9 k9 ys F9 N9 ne9 up9 fr9 hF9
    refine hide ?_
    intro GG bk
    obtain ⟨x1, x2, x3, rfl, ⟨_, ⟨_, _, _, e1, rfl, _⟩, _⟩, ⟨_, ⟨_, _, _, e2, rfl, _⟩, _⟩, ⟨_, ⟨_, _, _, e3, rfl, _⟩, _⟩⟩ := eighth3 hF9
    refine bk ?_
    clear bk
    cases e1; cases e2; cases e3
    try dsimp only
    try k_fold
    k_steps
    rename Fr g' L' _ _ => F8
    rename News g' L' _ _ => N8
    have n1 := N8 _ (List.mem_cons_self ..)
    exact hret _ _ _ (fun b o e => F8.keep b o (hG b o e)) ⟨_, _, _, _, _, rfl, fresh_up hG n1.2.2, n1.1⟩
end
end
section
open PySem PySem.W PyProof.Rows PySem.Spec PySem.Calls
section
/-- no address of the one ledger in the other -/
def Apart (nw T : List (Addr × Obj)) : Prop := ∀ p ∈ nw, ∀ q ∈ T, p.1 ≠ q.1
/-- a turn's end -/
def LoopEnd (h₀ : Heap) (L : Addr) (J : (Str → Option Value) → List (Addr × Obj) → Prop) (T : List (Addr × Obj)) (s₁ : Shared) (Q : Flow → Shared → Prop) (f : Flow) (s₂ : Shared) : Prop :=
  match f with
  | .ret v => Q (.ret v) s₂
  | .brk => Q .next s₂
  | _ => ∃ h' tk m' nw', s₂ = { s₁ with heap := h', toks := tk } ∧ Fr h₀ L h' m' ∧ News h₀ L h' (nw' ++ T) ∧ Apart nw' T ∧ J m' nw'
theorem LoopEnd.intro {h₀ : Heap} {L : Addr} {J : (Str → Option Value) → List (Addr × Obj) → Prop} {T nw' : List (Addr × Obj)} {s₁ : Shared} {Q : Flow → Shared → Prop} {h' : Heap} {tk : Nat} {m' : Str → Option Value} (F : Fr h₀ L h' m') (N : News h₀ L h' (nw' ++ T)) (ap : Apart nw' T) (j : J m' nw') :
    LoopEnd h₀ L J T s₁ Q .next { s₁ with heap := h', toks := tk } := ⟨h', tk, m', nw', rfl, F, N, ap, j⟩
section
variable {prog : Program} {w : World} {A : Around} {E : Value → Shared → Prop} {s : Shared} {env : Env} {h₀ : Heap} {x : Str} {body : List Stmt} {Q : Flow → Shared → Prop}

theorem forWalks {I : Addr} {fp wr : List Addr} {n : Nat} {P : Nat → Value → Prop} {St : Nat → Heap → Prop} {m₀ : Str → Option Value} {nw₀ : List (Addr × Obj)} (W : Walks prog w A I fp wr n P St)
    (hL : env.locals ∉ fp) (hw : ∀ b ∈ wr, h₀.get? b = none) (hal : ∀ i h, St i h → ∀ b ∈ wr, ∃ o, h.get? b = some o) (hfp : ∀ b ∈ fp, b ∈ wr ∨ (∃ o, h₀.get? b = some o) ∨ ∀ i h, St i h → ∃ o, h.get? b = some o)
    (J : Nat → (Str → Option Value) → List (Addr × Obj) → Prop) (hJ : ∀ i m nw, J i m nw → ∀ p ∈ nw, p.1 ∉ fp) (hst : St 0 s.heap) (F : Fr h₀ env.locals s.heap m₀) (N : News h₀ env.locals s.heap nw₀) (h0 : J 0 m₀ nw₀)
    (turn : ∀ i v m₁ nw h tk T, i < n → P i v → J i m₁ nw → Fr h₀ env.locals h (fun y => if y = x then some v else m₁ y) → News h₀ env.locals h (nw ++ T) → Apart nw T → (∀ b ∈ fp, h₀.get? b = none → ∃ o, (b, o) ∈ T) → St (i + 1) h →
      wpAny (model prog w) A (execs body env) (LoopEnd h₀ env.locals (J (i + 1)) T { s with heap := h, toks := tk } Q) E { s with heap := h, toks := tk })
    (done : ∀ m₁ nw h tk, J n m₁ nw → Fr h₀ env.locals h m₁ → News h₀ env.locals h nw → Q .next { s with heap := h, toks := tk }) :
    LoopAtV prog w A h₀ env x body Q E (.ref I) s := by
  refine ⟨I, fp, wr, n, P, St, m₀, nw₀, J, rfl, W, hL, hw, fun p hp h => hJ _ _ _ h0 p hp (W.sub _ h), hst, F, N, h0, ?_, ?_⟩
  · intro i v m₁ nw s₁ own HH6 hi hP hj hnw hown hget hin st F₁ N₁
    refine hide ?_
    intro GG bk
    obtain ⟨h, tk, rfl⟩ := HH6
    refine bk ?_
    clear bk
    have ap : Apart nw own := fun p hp q hq e => hJ _ _ _ hj p hp (e ▸ hown q hq)
    have N₂ : News h₀ env.locals h (nw ++ own) := fun p hp => N₁ p ((List.mem_append.mp hp).elim (List.mem_append_right _) (List.mem_append_left _))
    refine wpAny_mono (turn i v m₁ nw h tk own hi hP hj F₁ N₂ ap (fun b hb hn => ?_) st) (fun f s₂ r => ?_) fun _ _ e => e
    · rcases hfp b hb with hb' | ⟨o, e⟩ | hb'
      · obtain ⟨o, e⟩ := hal _ _ st b hb'
        exact ⟨o, hin b hb hn o e⟩
      · rw [e] at hn; cases hn
      · obtain ⟨o, e⟩ := hb' _ _ st
        exact ⟨o, hin b hb hn o e⟩
    · have fin : (∃ h' tk' m' nw', s₂ = { ({ s with heap := h, toks := tk } : Shared) with heap := h', toks := tk' } ∧ Fr h₀ env.locals h' m' ∧ News h₀ env.locals h' (nw' ++ own) ∧ Apart nw' own ∧ J (i + 1) m' nw') →
          LoopStepU h₀ env.locals wr own (J (i + 1)) { s with heap := h, toks := tk } .next s₂ := by
        intro HH0
        refine hide ?_
        intro GG bk
        obtain ⟨h', tk', m', nw', e, F', N', _, j⟩ := HH0
        refine bk ?_
        clear bk
        exact ⟨rfl, h', tk', m', nw', e, F', fun p hp => N' p ((List.mem_append.mp hp).elim (List.mem_append_right _) (List.mem_append_left _)), fun p hp hb => hJ _ _ _ j p hp (W.sub _ hb), j⟩
      cases f with
      | ret v => exact .ret r
      | brk => exact .brk r
      | next => exact .next (fin r)
      | cont => exact .cont (fin r)
  · intro h' tk m' nw' F' N' _ j
    exact done m' nw' h' tk j F' N'

theorem forBase {l : Addr} {items : Array Value} {m₀ : Str → Option Value} {nw₀ : List (Addr × Obj)} (hh : A.handled = none) (hl : h₀.IsList l items)
    (F : Fr h₀ env.locals s.heap m₀) (N : News h₀ env.locals s.heap nw₀) (J : Nat → (Str → Option Value) → List (Addr × Obj) → Prop) (h0 : J 0 m₀ nw₀)
    (turn : ∀ i v m₁ nw h tk T, items[i]? = some v → J i m₁ nw → Fr h₀ env.locals h (fun y => if y = x then some v else m₁ y) → News h₀ env.locals h (nw ++ T) → Apart nw T →
      wpAny (model prog w) A (execs body env) (LoopEnd h₀ env.locals (J (i + 1)) T { s with heap := h, toks := tk } Q) E { s with heap := h, toks := tk })
    (done : ∀ m₁ nw h tk, J items.size m₁ nw → Fr h₀ env.locals h m₁ → News h₀ env.locals h nw → Q .next { s with heap := h, toks := tk }) :
    wpAny (model prog w) A (pyIter (.ref l)) (fun it s₂ => LoopAtV prog w A h₀ env x body Q E it s₂) E s := by
  refine hide ?_
  intro GG bk
  obtain ⟨ol, hol, _⟩ := id hl
  refine bk ?_
  clear bk
  have hls : s.heap.IsList l items := hl.at fun o e => F.keep l o e
  have hlt : l < s.heap.objs.size := Heap.lt_size (F.keep _ _ hol)
  have hlL : env.locals ≠ l := fun e => by
    have := Nat.lt_of_lt_of_le (Heap.lt_size hol) F.above
    rw [e] at this; exact Nat.lt_irrefl _ this
  have hI₀ : h₀.get? s.heap.objs.size = none := next_is_new F
  refine wpAny_pyIter_list hls ?_
  have up : Up s.heap (s.heap.push { cls := .type "list_iterator", data := .fields #[.ref l, .int 0 0] }) := fun b o e => Heap.get?_push_of_some _ e
  refine forWalks (J := fun i m nw => J i m nw ∧ ∀ p ∈ nw, p.1 ∉ [s.heap.objs.size, l]) (Walks.list hh s.heap.objs.size l (Nat.ne_of_lt hlt) items) ?_ ?_ ?_ ?_ (fun _ _ _ j => j.2) ⟨⟨_, Heap.get?_push_size _ rfl, rfl, rfl⟩, hls.push _⟩ (F.keeps up) (N.grown up) ⟨h0, ?_⟩ ?_ ?_
  · simp only [List.mem_cons, List.not_mem_nil, or_false, not_or]
    exact ⟨Nat.ne_of_lt F.ns.lt, hlL⟩
  · intro b hb; rw [List.mem_singleton.mp hb]; exact hI₀
  · intro i h st b hb
    rw [List.mem_singleton.mp hb]
    refine hide ?_
    intro GG bk
    obtain ⟨o, e, _⟩ := st.1
    refine bk ?_
    clear bk
    exact ⟨o, e⟩
  · intro b hb
    rcases List.mem_cons.mp hb with rfl | hb
    · exact .inl (List.mem_singleton.mpr rfl)
    · rw [List.mem_singleton.mp hb]; exact .inr (.inl ⟨_, hol⟩)
  · intro p hp hb
    rcases List.mem_cons.mp hb with e | hb
    · exact absurd (Heap.lt_size (N p hp).1) (e ▸ Nat.lt_irrefl _)
    · have := (N p hp).2.2
      rw [List.mem_singleton.mp hb, hol] at this; cases this
  · rintro i v m₁ nw h tk T _ hP ⟨j, _⟩ F₁ N₁ ap hT st
    refine wpAny_mono (turn i v m₁ nw h tk T hP j F₁ N₁ ap) (fun f s₂ r => ?_) fun _ _ e => e
    obtain ⟨oI, hTI⟩ := hT _ (List.mem_cons_self ..) hI₀
    have fin : (∃ h' tk' m' nw', s₂ = { ({ s with heap := h, toks := tk } : Shared) with heap := h', toks := tk' } ∧ Fr h₀ env.locals h' m' ∧ News h₀ env.locals h' (nw' ++ T) ∧ Apart nw' T ∧ J (i + 1) m' nw') →
        ∃ h' tk' m' nw', s₂ = { ({ s with heap := h, toks := tk } : Shared) with heap := h', toks := tk' } ∧ Fr h₀ env.locals h' m' ∧ News h₀ env.locals h' (nw' ++ T) ∧ Apart nw' T ∧ J (i + 1) m' nw' ∧ ∀ p ∈ nw', p.1 ∉ [s.heap.objs.size, l] := by
      intro HH0
      refine hide ?_
      intro GG bk
      obtain ⟨h', tk', m', nw', e, F', N', ap', j'⟩ := HH0
      refine bk ?_
      clear bk
      refine ⟨h', tk', m', nw', e, F', N', ap', j', fun p hp hb => ?_⟩
      rcases List.mem_cons.mp hb with e | hb
      · exact ap' p hp _ hTI e
      · have := (N' p (List.mem_append_left _ hp)).2.2
        rw [List.mem_singleton.mp hb, hol] at this; cases this
    cases f with
    | ret v => exact r
    | brk => exact r
    | next => exact fin r
    | cont => exact fin r
  · rintro m₁ nw h tk ⟨j, _⟩ F₁ N₁
    exact done m₁ nw h tk j F₁ N₁
end
end
end
section
open PySem PySem.W PyProof.Rows PySem.Spec PySem.Calls
section
theorem top_off_F6 : True := by
  w_top off
  k_with_none
  trivial

theorem lines_F6_1 : True := by
  (k_with "mine subscriptTail Name Constant ref int" => (k_here; (with_reducible show wpAny _ _ (subscriptTail _ _ (Value.ref _) (Value.int _ _)) _ _ _); (with_unfolding_all refine' item_base ?k1_h ?k2_h ?k3_h ?k4_h ?k5_h ?_ ?k6_h; (case k1_h => k_asm); (case k2_h => assumption); (case k3_h => decide); (case k4_h => decide); (case k5_h => first | exact at3_0 | exact at3_1 | exact at3_2); (case k6_h => with_unfolding_all rfl); k_whole)))
  (k_with "mine call builtin:min" => (k_here; (with_reducible show wpAny _ _ (call (Value.builtin _) [Value.ref _]) _ _ _); k_dflt (refine' minLK ?k1_h ?k2_h ?k3_h ?k4_h ?_; (case k1_h => k_asm); (case k2_h => k_asm); (case k3_h => exact rfl); (case k4_h => assumption); k_whole); intro y_q h_q tk_q F_q N_q; (try dsimp only); (try k_sweep)))
  (k_with "mine call builtin:max" => (k_here; (with_reducible show wpAny _ _ (call (Value.builtin _) [Value.ref _]) _ _ _); k_dflt (refine' maxLK ?k1_h ?k2_h ?k3_h ?k4_h ?_; (case k1_h => k_asm); (case k2_h => k_asm); (case k3_h => exact rfl); (case k4_h => assumption); k_whole); intro y_q h_q tk_q F_q N_q; (try dsimp only); (try k_sweep)))
  (k_with "mine eval ListComp" => (k_here; refine Halt.out ?_))
  (k_with "mine exec Assign cons ListComp" => (k_here; refine Halt.out ?_))
  (k_with "mine pyIter ref" => (k_here; refine Halt.out ?_))
  trivial
abbrev Col := Int × Int × Int
abbrev col3 (c : Col) (t1 t2 t3 : Tok) (k : Nat) : Obj := listOf #[.int c.1 t1, .int c.2.1 t2, .int c.2.2 t3] k
def ColIn (objs : List (Addr × Obj)) (d : Addr) (c : Col) : Prop := ∃ t1 t2 t3 k, (d, col3 c t1 t2 t3 k) ∈ objs
def colOf (x : Int) : Col := (Int.fmod x 9, Int.fmod (Int.fdiv x 9) 9, Int.fmod (Int.fdiv x 81) 9)
def pal (ns : List Int) : List Col := [(1, 4, 2), (6, 2, 8), (2, 0, 5)] ++ ns.map colOf
theorem pal_snoc (ns : List Int) (n : Int) : pal (ns ++ [n]) = pal ns ++ [colOf n] := by simp [pal]
def Jpal (m₀ : Str → Option Value) (P : Addr) (ns : List Int) (i : Nat) (m₁ : Str → Option Value) (nw : List (Addr × Obj)) : Prop :=
  (∃ u, m₁ = fun y => if y = Str.ofString "x" then u else m₀ y) ∧ ∃ (ds : List Addr) (k : Nat) (objs : List (Addr × Obj)), nw = (P, listOf (ds.map Value.ref).toArray k) :: objs ∧ Paired (ColIn objs) ds (pal (ns.take i)) ∧ OwnOff objs [P] ∧ ds.length ≤ i + 3
theorem Jpal.zero {m₀ : Str → Option Value} {P d1 d2 d3 : Addr} {ns : List Int} {k : Nat} {objs : List (Addr × Obj)} (h1 : ColIn objs d1 (1, 4, 2)) (h2 : ColIn objs d2 (6, 2, 8)) (h3 : ColIn objs d3 (2, 0, 5)) (off : OwnOff objs [P]) :
    Jpal m₀ P ns 0 m₀ ((P, listOf #[.ref d1, .ref d2, .ref d3] k) :: objs) := by
  refine ⟨⟨m₀ (Str.ofString "x"), ?_⟩, [d1, d2, d3], k, objs, rfl, .cons h1 (.cons h2 (.cons h3 .nil)), off, Nat.le_refl _⟩
  funext y
  split
  · rename_i e; rw [e]
  · rfl
theorem Jpal.mem {a b q : Addr × Obj} {objs T : List (Addr × Obj)} (h : q ∈ (a :: b :: objs) ++ T) : q ∈ b :: a :: (objs ++ T) := by
  simp only [List.mem_append, List.mem_cons] at h ⊢
  rcases h with (h | h | h) | h
  · exact .inr (.inl h)
  · exact .inl h
  · exact .inr (.inr (.inl h))
  · exact .inr (.inr (.inr h))
theorem allLt_mem {d : Nat} : ∀ {l : List (Addr × Obj)}, AllLt d l → ∀ p ∈ l, p.1 < d
  | [], _, _, h => nomatch h
  | q :: l, x, p, h => by
    rcases List.mem_cons.mp h with rfl | h
    · exact x.1
    · exact allLt_mem x.2 p h
theorem Jpal.apart {P d : Nat} {o1 o1' o2 : Obj} {objs T : List (Addr × Obj)} (ap : Apart ((P, o1) :: objs) T) (_ : P < d) (l : AllLt d (objs ++ T)) : Apart ((P, o1') :: (d, o2) :: objs) T := by
  intro p hp q hq
  rcases List.mem_cons.mp hp with rfl | hp
  · exact ap (P, o1) (List.mem_cons_self ..) q hq
  · rcases List.mem_cons.mp hp with rfl | hp
    · exact Nat.ne_of_gt (allLt_mem l q (List.mem_append_right _ hq))
    · exact ap p (List.mem_cons_of_mem _ hp) q hq
theorem Jpal.off {P d : Nat} {o2 : Obj} {objs : List (Addr × Obj)} (off : OwnOff objs [P]) (l : P < d) : OwnOff ((d, o2) :: objs) [P] := by
  intro q hq b hb
  rw [List.mem_singleton.mp hb]
  rcases List.mem_cons.mp hq with rfl | hq
  · exact Nat.ne_of_gt l
  · exact off q hq _ (List.mem_singleton.mpr rfl)
theorem Jpal.step {g h' : Heap} {L : Addr} {m₀ : Str → Option Value} {P d : Nat} {ns : List Int} {i : Nat} {v u : Option Value} {n : Int} {t1 t2 t3 : Tok} {k k2 k3 : Nat} {ds : List Addr} {objs T : List (Addr × Obj)} {s₁ : Shared} {Q : Flow → Shared → Prop} {tk : Nat}
    (F : Fr g L h' (fun y => if y = Str.ofString "x" then v else (fun y => if y = Str.ofString "x" then u else m₀ y) y)) (N : News g L h' ((d, col3 (colOf n) t1 t2 t3 k2) :: (P, listOf ((ds.map Value.ref).toArray.push (.ref d)) k3) :: (objs ++ T)))
    (ap : Apart ((P, listOf (ds.map Value.ref).toArray k) :: objs) T) (l1 : P < d) (l2 : AllLt d (objs ++ T)) (off : OwnOff objs [P]) (hds : Paired (ColIn objs) ds (pal (ns.take i))) (hni : ns[i]? = some n) (hlen : ds.length ≤ i + 3) :
    LoopEnd g L (Jpal m₀ P ns (i + 1)) T s₁ Q .next { s₁ with heap := h', toks := tk } := by
  refine LoopEnd.intro (nw' := (P, listOf ((ds.map Value.ref).toArray.push (.ref d)) k3) :: (d, col3 (colOf n) t1 t2 t3 k2) :: objs) F (fun q hq => N q (Jpal.mem hq)) (Jpal.apart ap l1 l2) ⟨⟨v, ?_⟩, ds ++ [d], k3, (d, col3 (colOf n) t1 t2 t3 k2) :: objs, ?_, ?_, Jpal.off off l1, ?_⟩
  · funext y9
    dsimp only
    split <;> rfl
  · rw [List.map_append]; simp only [List.push_toArray, List.map_cons, List.map_nil]
  · rw [List.take_add_one, hni, Option.toList_some, pal_snoc]
    exact Paired.snoc (Paired.imp (fun d c h => by obtain ⟨t1, t2, t3, k, hm⟩ := h; exact ⟨t1, t2, t3, k, List.mem_cons_of_mem _ hm⟩) hds) ⟨_, _, _, _, List.mem_cons_self ..⟩
  · rw [List.length_append, List.length_singleton]; omega
theorem ints_at {vs : List Value} {ns : List Int} (hi : IntsAre vs ns) {i : Nat} {v : Value} (h : vs.toArray[i]? = some v) : ∃ n t, ns[i]? = some n ∧ v = .int n t := by
  have h' : vs[i]? = some v := by simpa using h
  have hlt : i < vs.length := (List.getElem?_eq_some_iff.mp h').1
  have hln := hi.length
  obtain ⟨t, ht⟩ := hi.get i ns[i] (by simp [hln ▸ hlt])
  refine ⟨ns[i], t, by simp [hln ▸ hlt], ?_⟩
  rw [ht] at h'; exact (Option.some.inj h').symm
theorem palette_spec (w : World) (l : Addr) (vs : List Value) (ns : List Int) : SpecS w 1 8 (.ref 162) [.ref l] (fun h => h.IsList l vs.toArray ∧ IntsAre vs ns ∧ ns.length ≤ 63)
    (fun h r h' => ∃ (d : Addr) (ds : List Addr) (k : Nat), r = .ref d ∧ h.get? d = none ∧ h'.get? d = some (listOf (ds.map Value.ref).toArray k) ∧ Paired (fun (d : Addr) (c : Col) => h.get? d = none ∧ ∃ t1 t2 t3 k, h'.get? d = some (col3 c t1 t2 t3 k)) ds (pal ns)) := by
  unfold SpecS
  intro p lz mean mg mb dp un gd cn cs a ccd cl outer A₀ base h₀ L m s Q E H hdp hu hok hret
  refine hide ?_
  intro GG bk
  obtain ⟨B, F, X, T, hk⟩ := H
  refine bk ?_
  clear bk
  ((refine wpAny_call ?_; k_dflt (refine' enterS ?k1 ?k2 ?k3 ?k5 ?kA ?kF ?kK ?k6 ?k7 ?k8 ?k9 ?kB ?_ ?c2 ?c3 ?c4 ?c5; (case kA => exact rfl); (case kF => exact rfl); (case kK => assumption); (case k1 => k_asm); (case k2 => k_asm); (case k3 => k_asm); (case k5 => k_asm); (case k6 => k_is); (case k7 => k_is); (case k8 => ktr_room); (case k9 => exact BindsTo.of_eq rfl); (case c5 => decide); (case kB => exact locs rfl); (case c2 => exact rfl); (case c3 => exact rfl); (case c4 => exact rfl); k_whole)))
  intro g' L' h' hG FG' F' N' B' X' T'
  refine hide ?_
  intro GG bk
  obtain ⟨hl, hi, hn⟩ := hok
  refine bk ?_
  clear bk
  have hl := hl.at fun o e => hG _ o e
  try dsimp only
  try k_fold
  k_steps
  refine Halt.mk ?_
  rename Fr g' L' _ _ => F8
  rename News g' L' _ _ => N8
  refine forBase rfl hl F8 N8 (Jpal _ _ ns) (Jpal.zero ⟨_, _, _, _, by k_mem⟩ ⟨_, _, _, _, by k_mem⟩ ⟨_, _, _, _, by k_mem⟩ ?_) ?_ ?_
  · intro q hq b hb
    rw [List.mem_singleton.mp hb]
    simp only [List.mem_cons, List.not_mem_nil, or_false] at hq
    rcases hq with rfl | rfl | rfl <;> (refine neN ?_; dsimp only; omega)
  · intro i v m₁ nw h tk T hv HH8 F9 N9 ap
    refine hide ?_
    intro GG bk
    obtain ⟨⟨u, rfl⟩, ds, k, objs, rfl, hds, off, hlen⟩ := HH8
    refine bk ?_
    clear bk
    rename IntsAre vs ns => hi9
    refine hide ?_
    intro GG bk
    obtain ⟨n, t, hni, rfl⟩ := ints_at hi9 hv
    refine bk ?_
    clear bk
    have hlt : i < ns.length := (List.getElem?_eq_some_iff.mp hni).1
    have off9 : OwnOff (objs ++ T) [_] := fun q hq b hb => (List.mem_append.mp hq).elim (fun h1 => off q h1 b hb) fun h1 => by rw [List.mem_singleton.mp hb]; exact (ap _ (List.mem_cons_self ..) q h1).symm
    rw [List.cons_append] at N9
    generalize hT9 : objs ++ T = T9 at N9 off9
    try dsimp only
    try k_fold
    k_steps
    rename Fr g' _ _ _ => F7
    rename News g' _ _ _ => N7
    rename _ ∧ AllLt _ T9 => l7
    subst hT9
    exact Jpal.step F7 N7 ap l7.1 l7.2 off hds hni hlen
  · intro m₁ nw h tk HH4 F9 N9
    refine hide ?_
    intro GG bk
    obtain ⟨⟨u, rfl⟩, ds, k, objs, rfl, hds, off, hlen⟩ := HH4
    refine bk ?_
    clear bk
    try dsimp only
    try k_fold
    k_steps
    rename Fr g' L' _ _ => F7
    rename News g' L' _ _ => N7
    have n1 := N7 _ (List.mem_cons_self ..)
    refine hret _ _ _ (fun b o e => F7.keep b o (hG b o e)) ⟨_, ds, k, rfl, fresh_up hG n1.2.2, n1.1, ?_⟩
    have e9 : ns.take vs.toArray.size = ns := by
      rename IntsAre vs ns => hi9
      rw [List.size_toArray, hi9.length, List.take_length]
    rw [e9] at hds
    refine Paired.imp (fun d c h => ?_) hds
    refine hide ?_
    intro GG bk
    obtain ⟨t1, t2, t3, k, hm⟩ := h
    refine bk ?_
    clear bk
    have n2 := N7 _ (List.mem_cons_of_mem _ hm)
    exact ⟨fresh_up hG n2.2.2, t1, t2, t3, k, n2.1⟩
end
end
section
open PySem PySem.W PyProof.Rows PySem.Spec PySem.Calls
section
section
variable {prog : Program} {w : World} {A : Around} {E : Value → Shared → Prop} {env : Env} {h₀ : Heap} {L : Addr} {m : Str → Option Value} {news : List (Addr × Obj)}
/-- the place behind a zip: no pair is let by -/
def ZipAt0 (prog : Program) (w : World) (A : Around) (env : Env) (scope : Scope) (cl : List (Str × Addr)) (c : Expr) (a b : Str) (Fin : Addr → Shared → Prop) (it : Value) (s₂ : Shared) : Prop :=
  ∃ I fp wr n Pt St Mid, it = .ref I ∧ WalksT prog w A I fp wr n Pt St Mid ∧ St 0 s₂.heap ∧ (∀ b ∈ fp, b < s₂.heap.objs.size) ∧
      (∀ i vals, Pt i vals → ∃ v0 v1, vals = #[v0, v1] ∧ ∀ C h tk m₃ E', s₂.heap.get? C = none → h.Ns C m₃ → m₃ a = some v0 → m₃ b = some v1 → (∀ b o, b ∉ wr → s₂.heap.get? b = some o → h.get? b = some o) →
        wpAny (model prog w) A (isTrue c (compEnvC scope cl C env) (eval c (compEnvC scope cl C env))) (TestEnd false { s₂ with heap := h, toks := tk }) E' { s₂ with heap := h, toks := tk }) ∧
      ∀ D h' tk k, s₂.heap.get? D = none → h'.get? D = some (listOf #[] k) → (∀ b o, b ∉ wr → s₂.heap.get? b = some o → h'.get? b = some o) → Fin D { s₂ with heap := h', toks := tk }
/-- a comprehension over pairs, of which the test lets none by -/
theorem compZ0 {s : Shared} {elt iter c : Expr} {a b : Str} {pa pb tp : Pos} {kk : Nat} {scope : Scope} {cl : List (Str × Addr)} {pos : Pos} {Q : Value → Shared → Prop} (hh : A.handled = none)
    (hclos : closureFor scope env = pure cl) (hcell : ∀ y ∈ scope.names, y.2 ≠ .cell) (hkind : scope.kind = .function)
    (hnames : ∀ y ∈ scope.names, y.2 = .local → scope.names.lookup y.1 = some .local) (hxa : scope.names.lookup a = some .local) (hxb : scope.names.lookup b = some .local) (hab : a ≠ b)
    (h : wpAny (model prog w) A (eval iter env) (fun xv s₁ => wpAny (model prog w) A (pyIter xv) (ZipAt0 prog w A env scope cl c a b (fun D s' => Q (.ref D) s')) E s₁) E s)
    (hs : ∀ x, foldedSetIterable iter env x = pure x := by intro _; rfl) :
    wpAny (model prog w) A (eval (.ListComp elt [⟨.Tuple [.Name a pa, .Name b pb] kk tp, iter, [c], 0⟩] scope pos) env) Q E s := by
  rw [eval_ListComp]
  refine wpAny_comprehension_free (use := none) rfl hs hclos hkind hnames (wpAny_mono h (fun xv s₁ h₁ => wpAny_mono h₁ (fun it s₂ h₂ => ?_) fun _ _ e => e) fun _ _ e => e)
  refine hide ?_
  intro GG bk
  obtain ⟨I, fp, wr, n, Pt, St, Mid, rfl, W, hst, hfp, htest, hQ⟩ := h₂
  refine bk ?_
  clear bk
  refine wpAny_newObj_type (wpAny_newFunctionEnv hcell (by intro y hy; simp at hy) (fun h₁ hns₁ hsb₁ => ?_) hkind)
  dsimp only at hns₁ hsb₁ ⊢
  generalize hH2 : s₂.heap.push { cls := .type "list", dict := none, data := .seq ([] : List Value).toArray } = H2 at hns₁ hsb₁ ⊢
  have hC : H2.objs.size = s₂.heap.objs.size + 1 := by rw [← hH2, Heap.size_push]
  have hDC : s₂.heap.objs.size ≠ H2.objs.size := by rw [hC]; exact Nat.ne_of_lt (Nat.lt_succ_self _)
  have below : ∀ b, b < s₂.heap.objs.size → b ≠ H2.objs.size ∧ b ≠ s₂.heap.objs.size := fun b hb => ⟨by rw [hC]; exact Nat.ne_of_lt (Nat.lt_succ_of_lt hb), Nat.ne_of_lt hb⟩
  have hDf : s₂.heap.objs.size ∉ fp := fun hm => Nat.lt_irrefl _ (hfp _ hm)
  have hCf : H2.objs.size ∉ fp := fun hm => by have := hfp _ hm; rw [hC] at this; exact Nat.lt_irrefl _ (Nat.lt_of_succ_lt this)
  have hCw : H2.objs.size ∉ wr := fun h => hCf (W.sub _ h)
  have hDw : s₂.heap.objs.size ∉ wr := fun h => hDf (W.sub _ h)
  have old : ∀ b o, s₂.heap.get? b = some o → h₁.get? b = some o := fun b o e => hsb₁.extBut b o (below b (Heap.lt_size e)).1 (Heap.get?_push_of_some _ (hH2 ▸ Heap.get?_push_of_some _ e))
  have hacc : h₁.get? s₂.heap.objs.size = some (listOf #[] 0) := hsb₁.extBut _ _ hDC (Heap.get?_push_of_some _ (hH2 ▸ Heap.get?_push_size _ rfl))
  have hst₁ : St 0 h₁ := W.frame _ _ _ hst fun b _ o e => old b o e
  have fresh : ∀ a, s₂.heap.objs.size ≤ a → s₂.heap.get? a = none := fun a ha => by
    cases e : s₂.heap.get? a with
    | none => rfl
    | some o' => exact absurd (Heap.lt_size e) (Nat.not_lt.mpr ha)
  have fC : s₂.heap.get? H2.objs.size = none := fresh _ (by rw [hC]; exact Nat.le_succ _)
  have hp : ((compEnvC scope cl H2.objs.size env).scope.kind == .class || ((compEnvC scope cl H2.objs.size env).scope.kind == .module && (compEnvC scope cl H2.objs.size env).locals != (compEnvC scope cl H2.objs.size env).globals)) = false := by simp [compEnvC, relabel, hkind]
  have loop : ∀ s₃ : Shared, s₃ = { s₂ with heap := h₁, toks := s₂.toks + ([] : List (Str × Value)).length } →
      codeAny (model prog w) A (.compLoop (.ListComp elt [⟨.Tuple [.Name a pa, .Name b pb] kk tp, iter, [c], 0⟩] scope pos) 0 (.ref I) (.ref s₂.heap.objs.size) (compEnvC scope cl H2.objs.size env))
        (compPost (model prog w) A E none Q (.ref s₂.heap.objs.size) H2.objs.size) s₃ := by
    rintro s₃ rfl
    refine kct_loop (fun k s' => ∃ h' tk m' i, s' = { s₂ with heap := h', toks := tk } ∧ St i h' ∧ h'.get? s₂.heap.objs.size = some (listOf #[] 0) ∧ h'.Ns H2.objs.size m' ∧ i ≤ n ∧ k = n + 1 - i ∧
      (∀ b o, b ∉ wr → s₂.heap.get? b = some o → h'.get? b = some o)) ?_ (n + 1) ⟨h₁, _, _, 0, rfl, hst₁, hacc, hns₁, Nat.zero_le _, rfl, fun b o _ e => old b o e⟩
    intro k s' HH2
    refine hide ?_
    intro GG bk
    obtain ⟨H, tk, m', i, rfl, hst', hD', hn', hi, rfl, hk⟩ := HH2
    refine bk ?_
    clear bk
    by_cases hlt : i < n
    · refine W.item i _ _ _ hlt hst' fun T vals h₂ tk₂ hPt _ hT hMid hk₂ => ?_
      refine hide ?_
      intro GG bk
      obtain ⟨v0, v1, rfl, ht⟩ := htest i vals hPt
      refine bk ?_
      clear bk
      refine W.go _ kk tp i T _ _ _ hMid fun h₃ hst₃ hk₃ => ?_
      have ht₃ : h₃.IsTuple T #[v0, v1] := hT.at fun o e => hk₃ T o (W.apart i T h₂ hMid) e
      refine wpAny_assign_Tuple hh ht₃ rfl rfl fun h₄ hx₄ => ?_
      replace hx₄ : Heap.ExtBut h₃.objs.size h₃ h₄ := hx₄
      have up₄ : ∀ b o, b ∉ wr → H.get? b = some o → h₄.get? b = some o := fun b o hb x =>
        have e3 := hk₃ b o hb (hk₂ b o hb x)
        hx₄ b o (Nat.ne_of_lt (Heap.lt_size e3)) e3
      show wpAny _ A (do holding [v1] (assign (.Name a pa) (compEnvC scope cl H2.objs.size env) v0); do holding [] (assign (.Name b pb) (compEnvC scope cl H2.objs.size env) v1); pure ()) _ _ _
      refine wpAny_bind (wpAny_holding (wpAny_assign_Name (wpAny_storeName_local (lookup_relabel_local hxa) (hn'.at' fun o e => up₄ _ o hCw e) (fun h₅ hn₅ hs₅ => ?_) hp)))
      replace hs₅ : Heap.SameBut H2.objs.size h₄ h₅ := hs₅
      refine wpAny_bind (wpAny_holding (wpAny_assign_Name (wpAny_storeName_local (lookup_relabel_local hxb) hn₅ (fun h₆ hn₆ hs₆ => wpAny_pure ?_) hp)))
      replace hs₆ : Heap.SameBut H2.objs.size h₅ h₆ := hs₆
      have up₆ : ∀ b o, b ∉ wr → b ≠ H2.objs.size → H.get? b = some o → h₆.get? b = some o := fun b o hb hc x => hs₆.extBut b o hc (hs₅.extBut b o hc (up₄ b o hb x))
      have hst₆ : St (i + 1) h₆ := W.frame _ _ _ hst₃ fun b hb o e => hs₆.extBut b o (fun q => hCf (q ▸ hb)) (hs₅.extBut b o (fun q => hCf (q ▸ hb)) (hx₄ b o (Nat.ne_of_lt (Heap.lt_size e)) e))
      have keep₆ : ∀ b o, b ∉ wr → s₂.heap.get? b = some o → h₆.get? b = some o := fun b o hb e => up₆ b o hb (below b (Heap.lt_size e)).1 (hk b o hb e)
      refine wpAny_mono (ht H2.objs.size h₆ _ _ _ fC hn₆ (by simp [hab]) (by simp) keep₆) (fun ok s₄ r => ?_) fun _ _ e => e
      refine hide ?_
      intro GG bk
      obtain ⟨rfl, h₇, tk₇, rfl, hk₇⟩ := r
      refine bk ?_
      clear bk
      simp only [Bool.false_eq_true, if_false]
      exact ⟨n + 1 - (i + 1), by omega, h₇, tk₇, _, i + 1, rfl, W.frame _ _ _ hst₆ fun b _ o e => hk₇ b o e, hk₇ _ _ (up₆ _ _ hDw hDC hD'), hn₆.keeps hk₇, hlt, rfl, fun b o hb e => hk₇ b o (keep₆ b o hb e)⟩
    · obtain rfl : i = n := by omega
      refine W.done _ _ _ hst' fun h₂ tk₂ hk₂ => ?_
      refine ⟨m', hn'.at' fun o e => hk₂ _ o hCw e, fun h₃ hs₃ => ?_⟩
      exact hQ _ h₃ tk₂ 0 (fresh _ (Nat.le_refl _)) (hs₃.extBut _ _ hDC (hk₂ _ _ hDw hD')) fun b o hb e => hs₃.extBut b o (below b (Heap.lt_size e)).1 (hk₂ b o hb (hk b o hb e))
  exact codeAny_compStart_list (loop _ rfl) (W.self 0 _ _ _ hst₁ (loop _ rfl))

/-- zip of two lists, and the empty comprehension over it -/
theorem zipE0 {s : Shared} {c : Expr} {a b : Str} {scope : Scope} {cl : List (Str × Addr)} {l1 l2 : Addr} {xs ys : Array Value} {Fin : Addr → Shared → Prop} (hh : A.handled = none)
    (F : Fr h₀ L s.heap m) (N : News h₀ L s.heap news) (hl1 : s.heap.IsList l1 xs) (hl2 : s.heap.IsList l2 ys)
    (htest : ∀ (i : Nat) v0 v1, xs[i]? = some v0 → ys[i]? = some v1 → ∀ C oC h tk m₃ E', LCg.NsObj oC m₃ → m₃ a = some v0 → m₃ b = some v1 → Fr h₀ L h m → News h₀ L h ((C, oC) :: news) → (∀ q ∈ news, q.1 ≠ C) →
      wpAny (model prog w) A (isTrue c (compEnvC scope cl C env) (eval c (compEnvC scope cl C env))) (TestEnd false { s with heap := h, toks := tk }) E' { s with heap := h, toks := tk })
    (fin : ∀ D h' tk k, Fr h₀ L h' m → News h₀ L h' ((D, listOf #[] k) :: news) → (∀ q ∈ news, q.1 ≠ D) → Up s.heap h' → Fin D { s with heap := h', toks := tk }) :
    wpAny (model prog w) A (call (.type "zip") [.ref l1, .ref l2]) (fun xv s₁ => wpAny (model prog w) A (pyIter xv) (ZipAt0 prog w A env scope cl c a b Fin) E s₁) E s := by
  refine hide ?_
  intro GG bk
  obtain ⟨o1, ho1, _⟩ := id hl1
  obtain ⟨o2, ho2, _⟩ := id hl2
  refine bk ?_
  clear bk
  have b1 := Heap.lt_size ho1
  have b2 := Heap.lt_size ho2
  refine call_zip_2 hl1 hl2 fun h' hz hTI hTO hi1 hi2 hsz up => ?_
  generalize hS : s.heap.objs.size = S at *
  have b1 := ltN b1
  have b2 := ltN b2
  have D : ZipApart (S + 4) (S + 2) (S + 3) S (S + 1) l1 l2 := by
    constructor <;> (refine neN ?_; omega)
  have W := WalksT.zip2 (prog := prog) (w := w) hh (S + 4) (S + 2) (S + 3) S (S + 1) l1 l2 D xs ys
  have hst : _ := (⟨hz, hTI, ⟨_, _, hTO⟩, hi1, hi2, hl1.at fun o e => up _ o e, hl2.at fun o e => up _ o e⟩ : IsZip h' (S + 4) (S + 2) (S + 3) .none ∧ IsPair h' (S + 2) (.ref S) (.ref (S + 1)) ∧ (∃ a b, IsPair h' (S + 3) a b) ∧ h'.IsListIter S l1 0 ∧ h'.IsListIter (S + 1) l2 0 ∧ h'.IsList l1 xs ∧ h'.IsList l2 ys)
  have upw : ∀ g : Heap, (∀ b o, b ∉ [S + 4, S + 3, S, S + 1] → h'.get? b = some o → g.get? b = some o) → Up s.heap g := fun g hk b o e => hk b o (fun hb => by
    have := Heap.lt_size e
    rw [hS] at this
    simp only [List.mem_cons, List.not_mem_nil, or_false] at hb
    have this := ltN this
    rcases hb with h | h | h | h <;> (rw [h] at this; have this := ltN this; omega)) (up b o e)
  refine W.self 0 _ _ _ hst ⟨_, _, _, _, _, _, _, rfl, W, hst, fun d hd => ?_, ?_, ?_⟩
  · show d < h'.objs.size
    rw [hsz]
    simp only [List.mem_cons, List.not_mem_nil, or_false] at hd
    rcases hd with h | h | h | h | h | h | h <;> (rw [h]; refine ltN ?_; omega)
  · intro i vals HH2
    refine hide ?_
    intro GG bk
    obtain ⟨x, y, hx, hy, rfl⟩ := HH2
    refine bk ?_
    clear bk
    refine ⟨x, y, rfl, fun C h tk m₃ E' hC hn ha hb hk => ?_⟩
    refine hide ?_
    intro GG bk
    obtain ⟨oC, hoC, hN⟩ := LCg.ns_obj hn
    refine bk ?_
    clear bk
    have u := upw h hk
    have hCs : s.heap.get? C = none := by
      cases e : s.heap.get? C with
      | none => rfl
      | some o => have e2 : h'.get? C = none := hC; rw [up _ _ e] at e2; cases e2
    exact htest i x y hx hy C oC h tk m₃ E' hN ha hb (F.keeps u) (join F hCs hoC (N.grown u)) (apart hCs N)
  · intro D9 h9 tk k hD hD' hk
    have u := upw h9 hk
    have hDs : s.heap.get? D9 = none := by
      cases e : s.heap.get? D9 with
      | none => rfl
      | some o => have e2 : h'.get? D9 = none := hD; rw [up _ _ e] at e2; cases e2
    exact fin D9 h9 tk k (F.keeps u) (join F hDs hD' (N.grown u)) (apart hDs N) u
end
end
end
section
open PySem PySem.W PyProof.Rows PySem.Spec PySem.Calls
section
theorem top_off_F7 : True := by
  w_top off
  k_with_none
  trivial
theorem lines_F7_1 : True := by
  (k_with "mine subscriptTail Name Constant ref int" => (k_here; (with_reducible show wpAny _ _ (subscriptTail _ _ (Value.ref _) (Value.int _ _)) _ _ _); (with_unfolding_all refine' item_base ?k1_h ?k2_h ?k3_h ?k4_h ?k5_h ?_ ?k6_h; (case k1_h => k_asm); (case k2_h => assumption); (case k3_h => decide); (case k4_h => decide); (case k5_h => first | exact at3_0 | exact at3_1 | exact at3_2); (case k6_h => with_unfolding_all rfl); k_whole)))
  (k_with "mine call builtin:min" => (k_here; (with_reducible show wpAny _ _ (call (Value.builtin _) [Value.ref _]) _ _ _); k_dflt (refine' minLK ?k1_h ?k2_h ?k3_h ?k4_h ?_; (case k1_h => k_asm); (case k2_h => k_asm); (case k3_h => exact rfl); (case k4_h => assumption); k_whole); intro y_q h_q tk_q F_q N_q; (try dsimp only); (try k_sweep)))
  (k_with "mine call builtin:max" => (k_here; (with_reducible show wpAny _ _ (call (Value.builtin _) [Value.ref _]) _ _ _); k_dflt (refine' maxLK ?k1_h ?k2_h ?k3_h ?k4_h ?_; (case k1_h => k_asm); (case k2_h => k_asm); (case k3_h => exact rfl); (case k4_h => assumption); k_whole); intro y_q h_q tk_q F_q N_q; (try dsimp only); (try k_sweep)))
  (k_with "mine eval ListComp" => (k_here; refine Halt.out ?_))
  (k_with "mine exec Assign cons ListComp" => (k_here; refine Halt.out ?_))
  (k_with "mine pyIter ref" => (k_here; refine Halt.out ?_))
  (k_with "mine compareOp NotEq ref ref" => (k_here; k_dflt (refine' ke_ne_ints ?k1_h ?k2_h ?k3_h ?k4_h ?k5_h ?_; (case k1_h => (first | exact Heap.IsList.at (by assumption) (fun o e => Fr.keep (by assumption) _ o e) | exact listOf_is (News.get (by assumption) (by k_mem)))); (case k2_h => (first | exact Heap.IsList.at (by assumption) (fun o e => Fr.keep (by assumption) _ o e) | exact listOf_is (News.get (by assumption) (by k_mem)))); (case k3_h => (first | exact ints3 | exact IntsAre.nil | assumption)); (case k4_h => (first | exact ints3 | exact IntsAre.nil | assumption)); (case k5_h => ktr_units); k_whole)))
  (k_with "mine compareOp Eq ref ref" => (k_here; k_dflt (refine' ke_eq_ints ?k1_h ?k2_h ?k3_h ?k4_h ?k5_h ?_; (case k1_h => (first | exact Heap.IsList.at (by assumption) (fun o e => Fr.keep (by assumption) _ o e) | exact listOf_is (News.get (by assumption) (by k_mem)))); (case k2_h => (first | exact Heap.IsList.at (by assumption) (fun o e => Fr.keep (by assumption) _ o e) | exact listOf_is (News.get (by assumption) (by k_mem)))); (case k3_h => (first | exact ints3 | exact IntsAre.nil | assumption)); (case k4_h => (first | exact ints3 | exact IntsAre.nil | assumption)); (case k5_h => ktr_units); k_whole)))
  (k_with "mine call ref" => (k_here; (with_reducible show wpAny _ _ (call (Value.ref 167) [Value.ref _]) _ _ _); k_dflt (refine' useS (over_spec _ _ _ _ _ _ _ _) ?k1_h ?k2_h ?k3_h ?k4_h ?k5_h ?kK_h ?kd_h ?ku_h ?kp_h ?_; (((case k1_h => k_asm); (case k2_h => k_asm); (case k3_h => k_asm); (case k4_h => k_asm); (case k5_h => k_asm); (case kK_h => first | exact rfl | assumption); (case kd_h => ktr_room); (case ku_h => ktr_units))); (case kp_h => (refine ⟨?kl_h, ?ko_h⟩; (case kl_h => first | exact Heap.IsList.at (by assumption) (fun o e => Fr.keep (by assumption) _ o e) | exact listOf_is (News.get (by assumption) (by k_mem))); (case ko_h => assumption))); k_whole); intro r_q h_q tk_q F_q N_q up_q out_q; obtain ⟨t', d', u', u1', u2', u3', k', e', fr1', fr2', ob1', ob2'⟩ := out_q; subst e'; (have N'' := join (by assumption) fr1' ob1' (join (by assumption) fr2' ob2' N_q)); (have ne1' := apart fr1' (by assumption)); (have ne2' := apart fr2' (by assumption)); clear N_q; clear up_q fr1' ob1' fr2' ob2'; (try simp only [List.forall_mem_cons, List.not_mem_nil, false_implies, implies_true, and_true] at ne1'); (try simp only [List.forall_mem_cons, List.not_mem_nil, false_implies, implies_true, and_true] at ne2'); (try dsimp only); (try k_sweep); (try k_fold)))
  (k_with "mine call ref" => (k_here; (with_reducible show wpAny _ _ (call (Value.ref 155) [Value.ref _]) _ _ _); k_dflt (refine' useS (turned_spec _ _ _ _ _ _ _ _) ?k1_h ?k2_h ?k3_h ?k4_h ?k5_h ?kK_h ?kd_h ?ku_h ?kp_h ?_; (((case k1_h => k_asm); (case k2_h => k_asm); (case k3_h => k_asm); (case k4_h => k_asm); (case k5_h => k_asm); (case kK_h => first | exact rfl | assumption); (case kd_h => ktr_room); (case ku_h => ktr_units))); (case kp_h => first | exact Heap.IsList.at (by assumption) (fun o e => Fr.keep (by assumption) _ o e) | exact listOf_is (News.get (by assumption) (by k_mem))); k_whole); intro r_q h_q tk_q F_q N_q up_q out_q; obtain ⟨d', u1', u2', u3', k', e', fr1', ob1'⟩ := out_q; subst e'; (have N'' := join (by assumption) fr1' ob1' N_q); (have ne1' := apart fr1' (by assumption)); clear N_q; clear up_q fr1' ob1'; (try simp only [List.forall_mem_cons, List.not_mem_nil, false_implies, implies_true, and_true] at ne1'); (try dsimp only); (try k_sweep); (try k_fold)))
  (k_with "mine call type:zip" => (k_here; refine Halt.out ?_))
  trivial
/-- int(part + 0.5) -/
def rnd (a : UInt64) : Int := Flt.toInt Float64.truncOf (Float64.add a 4602678819172646912)
def rndOk (a : UInt64) : Prop := Float64.isNaN (Float64.add a 4602678819172646912) = false ∧ Float64.isInf (Float64.add a 4602678819172646912) = false
def Rint (v y : Value) (objs : List (Addr × Obj)) : Prop := ∃ a t u, v = .float a t ∧ y = .int (rnd a) u ∧ objs = []
def thereC (c : Col) : Col := (rnd (overF c.1 c.2.1 c.2.2).2.1, rnd (overF c.1 c.2.1 c.2.2).2.2.1, rnd (overF c.1 c.2.1 c.2.2).2.2.2)
def nearB (o : UInt64) : Prop := (rnd o).natAbs < 2 ^ 1024 - 2 ^ 970 ∧ (Float64.cmp (Float64.abs (Float64.sub o (Float64.ofInt (rnd o)))) 4517329193108106637 == some Ordering.gt) = false
structure ColOk (c : Col) : Prop where
  ok : overOk c.1 c.2.1 c.2.2
  r1 : rndOk (overF c.1 c.2.1 c.2.2).2.1
  r2 : rndOk (overF c.1 c.2.1 c.2.2).2.2.1
  r3 : rndOk (overF c.1 c.2.1 c.2.2).2.2.2
  li : (Float64.cmpInt (overF c.1 c.2.1 c.2.2).1 (min (min c.1 c.2.1) c.2.2 + max (max c.1 c.2.1) c.2.2) != some Ordering.eq) = false
  th : [rnd (overF c.1 c.2.1 c.2.2).2.1, rnd (overF c.1 c.2.1 c.2.2).2.2.1, rnd (overF c.1 c.2.1 c.2.2).2.2.2] = [c.1 + moveI c.1 c.2.1 c.2.2, c.2.1 + moveI c.1 c.2.1 c.2.2, c.2.2 + moveI c.1 c.2.1 c.2.2]
  n1 : nearB (overF c.1 c.2.1 c.2.2).2.1
  n2 : nearB (overF c.1 c.2.1 c.2.2).2.2.1
  n3 : nearB (overF c.1 c.2.1 c.2.2).2.2.2
  ok2 : overOk (thereC c).1 (thereC c).2.1 (thereC c).2.2
  q1 : rndOk (overF (thereC c).1 (thereC c).2.1 (thereC c).2.2).2.1
  q2 : rndOk (overF (thereC c).1 (thereC c).2.1 (thereC c).2.2).2.2.1
  q3 : rndOk (overF (thereC c).1 (thereC c).2.1 (thereC c).2.2).2.2.2
  bk : [rnd (overF (thereC c).1 (thereC c).2.1 (thereC c).2.2).2.1, rnd (overF (thereC c).1 (thereC c).2.1 (thereC c).2.2).2.2.1, rnd (overF (thereC c).1 (thereC c).2.1 (thereC c).2.2).2.2.2] = [c.1, c.2.1, c.2.2]
theorem iAt_rnd (a b c : UInt64) (i : Nat) : iAt (rnd a) (rnd b) (rnd c) i = rnd (fAt a b c i) := by
  match i with
  | 0 => rfl
  | 1 => rfl
  | _ + 2 => rfl
theorem near3 {a b c : UInt64} (h1 : nearB a) (h2 : nearB b) (h3 : nearB c) (i : Nat) : nearB (fAt a b c i) := by
  match i with
  | 0 => exact h1
  | 1 => exact h2
  | _ + 2 => exact h3
theorem rnd3 {a b c : UInt64} (h1 : rndOk a) (h2 : rndOk b) (h3 : rndOk c) (i : Nat) : rndOk (fAt a b c i) := by
  match i with
  | 0 => exact h1
  | 1 => exact h2
  | _ + 2 => exact h3
theorem paired_ref {F : Addr → Col → Prop} : ∀ {ds : List Addr} {cols : List Col} (_ : Paired F ds cols) {i : Nat} {v : Value} (_ : (ds.map Value.ref).toArray[i]? = some v), ∃ d c, v = .ref d ∧ F d c
  | _, _, .nil, _, _, hv => by simp at hv
  | _, _, .cons (a := d) (b := c) h t, i, v, hv => by
    match i with
    | 0 => exact ⟨d, c, by simpa using hv.symm, h⟩
    | i + 1 => exact paired_ref t (i := i) (by simpa using hv)
theorem right_spec (w : World) (l : Addr) (ds : List Addr) (cols : List Col) : SpecS w 4 120 (.ref 172) [.ref l] (fun h => h.IsList l (ds.map Value.ref).toArray ∧ Paired (fun (d : Addr) (c : Col) => (∃ t1 t2 t3 k, h.get? d = some (col3 c t1 t2 t3 k)) ∧ ColOk c) ds cols)
    (fun _ r _ => r = .bool true) := by
  unfold SpecS
  intro p lz mean mg mb dp un gd cn cs a ccd cl outer A₀ base h₀ L m s Q E H hdp hu hok hret
  refine hide ?_
  intro GG bk
  obtain ⟨B, F, X, T, hk⟩ := H
  refine bk ?_
  clear bk
  ((refine wpAny_call ?_; k_dflt (refine' enterS ?k1 ?k2 ?k3 ?k5 ?kA ?kF ?kK ?k6 ?k7 ?k8 ?k9 ?kB ?_ ?c2 ?c3 ?c4 ?c5; (case kA => exact rfl); (case kF => exact rfl); (case kK => assumption); (case k1 => k_asm); (case k2 => k_asm); (case k3 => k_asm); (case k5 => k_asm); (case k6 => k_is); (case k7 => k_is); (case k8 => ktr_room); (case k9 => exact BindsTo.of_eq rfl); (case c5 => decide); (case kB => exact locs rfl); (case c2 => exact rfl); (case c3 => exact rfl); (case c4 => exact rfl); k_whole)))
  intro g' L' h' hG FG' F' N' B' X' T'
  obtain ⟨hl, hc⟩ := hok
  have hl := hl.at fun o e => hG _ o e
  try dsimp only
  try k_fold
  k_steps
  refine For_invV g' (by rfl) (by rfl) ?_
  k_steps
  refine Halt.mk ?_
  rename Fr g' L' _ _ => F8
  rename News g' L' _ _ => N8
  refine forBase rfl hl F8 N8 (fun _ _ nw => nw = []) rfl ?_ ?_
  · rintro i v m₁ nw h tk T9 hv rfl F9 N9 ap
    refine hide ?_
    intro GG bk
    obtain ⟨d, c, rfl, ⟨t1, t2, t3, k, hd⟩, ho⟩ : ∃ (d : Addr) (c : Col), v = .ref d ∧ (∃ t1 t2 t3 k, s.heap.get? d = some (col3 c t1 t2 t3 k)) ∧ ColOk c := paired_ref hc hv
    obtain ⟨x, y, z⟩ := c
    refine bk ?_
    clear bk
    have ho1 : overOk x y z := ho.ok
    have hr := rnd3 ho.r1 ho.r2 ho.r3
    have hr2 := rnd3 ho.q1 ho.q2 ho.q3
    have hn9 := near3 ho.n1 ho.n2 ho.n3
    have ho2 : overOk (rnd (overF x y z).2.1) (rnd (overF x y z).2.2.1) (rnd (overF x y z).2.2.2) := ho.ok2
    dsimp only [thereC] at hr hr2 hn9
    have hdl : g'.IsList d #[.int x t1, .int y t2, .int z t3] := ⟨_, hG _ _ hd, rfl, _, rfl⟩
    rw [List.nil_append] at N9
    try dsimp only
    try k_fold
    k_steps
    rename Fr g' L' _ _ => F8
    refine Halt.mk (compA F8 (fun _ => true) Rint (by rfl) (by rfl) (by rfl) (by decide) (by rfl) (by decide) (by rfl) (by rfl) (by rfl) ?_)
    k_steps
    refine Halt.mk ?_
    rename Fr g' L' _ _ => F8
    rename News g' L' _ _ => N8
    have T8 := listOf_is (N8.get (List.mem_cons_of_mem _ (List.mem_cons_self ..)))
    refine iterListA rfl F8 N8 T8 (by show 3 ≤ sizeLine; decide) ⟨?_, ?_⟩ ?_
    · intros; exact wpAny_tests_nil ⟨rfl, _, _, rfl, fun b o e => e⟩
    · intro C oC i v h tk m₃ E' hP hp hN hx9 F9 N9 ne9 up9
      obtain ⟨t9, rfl⟩ := fAt_of hP
      try dsimp only
      try k_fold
      k_steps
      · exact Bool.noConfusion ((hr i).1.symm.trans (by assumption))
      · exact Bool.noConfusion ((hr i).2.symm.trans (by assumption))
      · exact ⟨⟨_, _, rfl, fun b o e => e⟩, [], ⟨_, _, _, rfl, rfl, rfl⟩, by simp⟩
    intro D h9 tk9 k9 ys F9 N9 ne9 up9 fr9 hF9
    refine hide ?_
    intro GG bk
    obtain ⟨x1, x2, x3, rfl, ⟨_, ⟨_, _, _, e1, rfl, _⟩, _⟩, ⟨_, ⟨_, _, _, e2, rfl, _⟩, _⟩, ⟨_, ⟨_, _, _, e3, rfl, _⟩, _⟩⟩ := eighth3 hF9
    refine bk ?_
    clear bk
    cases e1; cases e2; cases e3
    clear hF9 up9 fr9
    try simp only [List.forall_mem_cons, List.not_mem_nil, false_implies, implies_true, and_true] at ne9
    try dsimp only
    try k_fold
    k_steps
    · exact Bool.noConfusion (ho.li.symm.trans (by assumption))
    rotate_left
    · exact absurd ho.th (by assumption)
    refine Halt.mk (compZ0 rfl (by rfl) (by decide) (by rfl) (by decide) (by rfl) (by rfl) (by decide) ?_)
    k_steps
    refine Halt.mk ?_
    rename Fr g' L' _ _ => F8
    rename News g' L' _ _ => N8
    have T8 := listOf_is (N8.get (List.mem_cons_of_mem _ (List.mem_cons_of_mem _ (List.mem_cons_of_mem _ (List.mem_cons_self ..)))))
    have T7 := listOf_is (N8.get (List.mem_cons_of_mem _ (List.mem_cons_self ..)))
    refine zipE0 rfl F8 N8 T8 T7 ?_ ?_
    · intro i v0 v1 h0 h1 C oC h tk m₃ E' hN ha hb F9 N9 ne9
      obtain ⟨t9, rfl⟩ := fAt_of h0
      obtain ⟨u9, rfl⟩ := iAt_of h1
      have hn8 := hn9 i
      rw [iAt_rnd] at hb
      clear h1
      try dsimp only
      try k_fold
      k_steps
      · exact absurd (by assumption) (Nat.not_le.mpr hn8.1)
      · exact ⟨hn8.2, _, _, rfl, fun b o e => e⟩
    · intro D9 h9 tk9 k9 F9 N9 ne9 up9
      clear up9
      try simp only [List.forall_mem_cons, List.not_mem_nil, false_implies, implies_true, and_true] at ne9
      try dsimp only
      try k_fold
      k_steps
      refine Halt.mk (compE (fun _ => true) Rint (by rfl) (by decide) (by rfl) (by decide) (by rfl) ?_)
      k_steps
      refine Halt.mk ?_
      rename Fr g' L' _ _ => F6
      rename News g' L' _ _ => N6
      have T6 := listOf_is (N6.get (List.mem_cons_of_mem _ (List.mem_cons_self ..)))
      refine iterListE rfl F6 N6 T6 (by show 3 ≤ sizeLine; decide) ⟨?_, ?_⟩ ?_
      · intros; exact wpAny_tests_nil ⟨rfl, _, _, rfl, fun b o e => e⟩
      · intro C oC i v h tk m₃ E' hP hp hN hx9 F9 N9 ne9 up9
        obtain ⟨t9, rfl⟩ := fAt_of hP
        try dsimp only
        try k_fold
        k_steps
        · exact Bool.noConfusion ((hr2 i).1.symm.trans (by assumption))
        · exact Bool.noConfusion ((hr2 i).2.symm.trans (by assumption))
        · exact ⟨⟨_, _, rfl, fun b o e => e⟩, [], ⟨_, _, _, rfl, rfl, rfl⟩, by simp⟩
      intro D8 h8 tk8 k8 ys F5 N5 ne5 up5 fr5 hF5
      refine hide ?_
      intro GG bk
      obtain ⟨x1, x2, x3, rfl, ⟨_, ⟨_, _, _, e1, rfl, _⟩, _⟩, ⟨_, ⟨_, _, _, e2, rfl, _⟩, _⟩, ⟨_, ⟨_, _, _, e3, rfl, _⟩, _⟩⟩ := eighth3 hF5
      refine bk ?_
      clear bk
      cases e1; cases e2; cases e3
      clear hF5 up5 fr5 ne5
      try dsimp only
      try k_fold
      k_steps
      · rename Fr g' L' _ _ => F4
        rename News g' L' _ _ => N4
        exact LoopEnd.intro (nw' := []) F4 (fun q hq => N4 q (by simp only [List.nil_append] at hq; simp only [List.mem_cons]; simp only [hq, or_true])) (fun q hq => nomatch hq) rfl
      · exact absurd ho.bk (by assumption)
  · rintro m₁ nw h tk rfl F9 N9
    try dsimp only
    try k_fold
    k_steps
    exact hret _ _ _ (fun b o e => F9.keep b o (hG b o e)) rfl
end
end
section
open PySem PySem.W PyProof.Rows PySem.Spec PySem.Calls
section
theorem top_off_F8 : True := by
  w_top off
  k_with_none
  trivial


theorem lines_F8_1 : True := by
  (k_with "mine subscriptTail Name Constant ref int" => (k_here; (with_reducible show wpAny _ _ (subscriptTail _ _ (Value.ref _) (Value.int _ _)) _ _ _); (with_unfolding_all refine' item_base ?k1_h ?k2_h ?k3_h ?k4_h ?k5_h ?_ ?k6_h; (case k1_h => k_asm); (case k2_h => assumption); (case k3_h => decide); (case k4_h => decide); (case k5_h => first | exact at3_0 | exact at3_1 | exact at3_2); (case k6_h => with_unfolding_all rfl); k_whole)))
  (k_with "mine call builtin:min" => (k_here; (with_reducible show wpAny _ _ (call (Value.builtin _) [Value.ref _]) _ _ _); k_dflt (refine' minLK ?k1_h ?k2_h ?k3_h ?k4_h ?_; (case k1_h => k_asm); (case k2_h => k_asm); (case k3_h => exact rfl); (case k4_h => assumption); k_whole); intro y_q h_q tk_q F_q N_q; (try dsimp only); (try k_sweep)))
  (k_with "mine call builtin:max" => (k_here; (with_reducible show wpAny _ _ (call (Value.builtin _) [Value.ref _]) _ _ _); k_dflt (refine' maxLK ?k1_h ?k2_h ?k3_h ?k4_h ?_; (case k1_h => k_asm); (case k2_h => k_asm); (case k3_h => exact rfl); (case k4_h => assumption); k_whole); intro y_q h_q tk_q F_q N_q; (try dsimp only); (try k_sweep)))
  (k_with "mine eval ListComp" => (k_here; refine Halt.out ?_))
  (k_with "mine exec Assign cons ListComp" => (k_here; refine Halt.out ?_))
  (k_with "mine pyIter ref" => (k_here; refine Halt.out ?_))
  (k_with "mine compareOp NotEq ref ref" => (k_here; k_dflt (refine' ke_ne_ints ?k1_h ?k2_h ?k3_h ?k4_h ?k5_h ?_; (case k1_h => (first | exact Heap.IsList.at (by assumption) (fun o e => Fr.keep (by assumption) _ o e) | exact listOf_is (News.get (by assumption) (by k_mem)))); (case k2_h => (first | exact Heap.IsList.at (by assumption) (fun o e => Fr.keep (by assumption) _ o e) | exact listOf_is (News.get (by assumption) (by k_mem)))); (case k3_h => (first | exact ints3 | exact IntsAre.nil | assumption)); (case k4_h => (first | exact ints3 | exact IntsAre.nil | assumption)); (case k5_h => ktr_units); k_whole)))
  (k_with "mine compareOp Eq ref ref" => (k_here; k_dflt (refine' ke_eq_ints ?k1_h ?k2_h ?k3_h ?k4_h ?k5_h ?_; (case k1_h => (first | exact Heap.IsList.at (by assumption) (fun o e => Fr.keep (by assumption) _ o e) | exact listOf_is (News.get (by assumption) (by k_mem)))); (case k2_h => (first | exact Heap.IsList.at (by assumption) (fun o e => Fr.keep (by assumption) _ o e) | exact listOf_is (News.get (by assumption) (by k_mem)))); (case k3_h => (first | exact ints3 | exact IntsAre.nil | assumption)); (case k4_h => (first | exact ints3 | exact IntsAre.nil | assumption)); (case k5_h => ktr_units); k_whole)))
  trivial
theorem line100 {n : Nat} (h : n ≤ 100) : n ≤ sizeLine := Nat.le_trans h (by decide)
theorem lines_F8_2 : True := by
  (k_with "mine subscriptTail Name Slice ref ref" => (k_here; (with_reducible show wpAny _ _ (subscriptTail _ (PySem.Expr.Slice none none none _) (Value.ref _) (Value.ref _)) _ _ _); k_dflt (refine' kmk_slice_ints ?F_h ?N_h ?l_h ?p_h ?q_h ?i_h ?m_h rfl ?_ ?s_h ?t_h ?z_h; (case F_h => k_asm); (case N_h => k_asm); (case l_h => (first | exact Heap.IsList.at (by assumption) (fun o e => Fr.keep (by assumption) _ o e) | exact listOf_is (News.get (by assumption) (by k_mem)))); (case p_h => kmk_part); (case q_h => kmk_part); (case i_h => assumption); (case m_h => exact kmk_all (by assumption)); (case s_h => with_unfolding_all rfl); (case t_h => kmk_pure); (case z_h => exact kmk_sz (by assumption) (line100 (by assumption)))); intro D_q ws_q h_q F_q N_q l1_q hI_q hC_q hL_q; clear hC_q hL_q; (try k_lt l1_q); (try k_sweep)))
  (k_with "mine exec While BoolOp cons nil" => (k_here; refine Halt.out ?_))
  trivial
section
variable {prog : Program} {w : World} {A : Around} {E : Value → Shared → Prop} {env : Env} {test : Expr} {body orelse : List Stmt} {Q : Flow → Shared → Prop}
/-- the next turn's start -/
def WhNext (I : Nat → Shared → Prop) (n : Nat) (s : Shared) : Prop := ∃ k, k < n ∧ I k s
/-- a while loop by an invariant with a falling number -/
theorem whileInd (hE : PassesOwn (model prog w) A env E) (I : Nat → Shared → Prop)
    (step : ∀ n s, I n s → wpAny (model prog w) A (isTrue test env (eval test env)) (fun b s₂ => WhlIf b (wpAny (model prog w) A (execs body env) (fun f s₃ => match f with
      | .next => WhNext I n s₃
      | .cont => WhNext I n s₃
      | .brk => Q .next s₃
      | .ret v => Q (.ret v) s₃) E s₂) (wpAny (model prog w) A (execs orelse env) Q E s₂)) E s) :
    ∀ n s, I n s → WhlRest prog w A E env test body orelse Q 0 s := by
  have all : ∀ N n s, n < N → I n s → WhlRest prog w A E env test body orelse Q 0 s := by
    intro N
    induction N with
    | zero => intro n s h; exact absurd h (Nat.not_lt_zero _)
    | succ N ih =>
      intro n s hn hI
      have key : WhlRest prog w A E env test body orelse Q (0 + 1) s := by
        refine whl_turn hE (wpAny_mono (step n s hI) (fun b s₂ h₂ => ?_) fun _ _ e => e)
        cases b with
        | false => exact h₂
        | true =>
          refine WhlIf.yes rfl (wpAny_mono h₂ (fun f s₃ h₃ => ?_) fun _ _ e => e)
          cases f with
          | next => obtain ⟨k, hk, hI'⟩ := h₃; exact ih k s₃ (by omega) hI'
          | cont => obtain ⟨k, hk, hI'⟩ := h₃; exact ih k s₃ (by omega) hI'
          | brk => exact h₃
          | ret v => exact h₃
      exact key
  exact fun n s hI => all (n + 1) n s (Nat.lt_succ_self _) hI
end
/-- a list without the noughts at its end -/
def trim (ns : List Int) : List Int := (ns.reverse.dropWhile (· == 0)).reverse
theorem trim_nil : trim [] = [] := rfl
theorem trim_zero (ns : List Int) : trim (ns ++ [0]) = trim ns := by simp [trim]
theorem trim_last (ns : List Int) {a : Int} (h : a ≠ 0) : trim (ns ++ [a]) = ns ++ [a] := by
  simp [trim, h]
def Jtrim (g : Heap) (L : Addr) (m₀ : Str → Option Value) (ns : List Int) (s : Shared) (n : Nat) (s' : Shared) : Prop :=
  ∃ h tk D ws ms k, s' = { s with heap := h, toks := tk } ∧ n = ms.length ∧ Fr g L h (fun y => if y = Str.ofString "kept" then some (.ref D) else m₀ y) ∧ News g L h [(D, listOf (List.toArray ws) k)] ∧ IntsAre ws ms ∧ trim ms = trim ns ∧ ms.length ≤ 100
theorem upd_upd {x : Str} {a b : Option Value} {m₀ : Str → Option Value} : (fun y => if y = x then a else (fun y => if y = x then b else m₀ y) y) = fun y => if y = x then a else m₀ y := by
  funext y
  dsimp only
  split <;> rfl
theorem ints_snoc {ws : List Value} {ms : List Int} {a : Int} (h : IntsAre ws (ms ++ [a])) : ∃ us t, ws = us ++ [.int a t] ∧ IntsAre us ms := by
  induction ms generalizing ws with
  | nil =>
    cases h with
    | cons n t h => cases h; exact ⟨[], t, rfl, .nil⟩
  | cons m ms ih =>
    cases h with
    | cons n t h =>
      obtain ⟨us, t', rfl, h'⟩ := ih h
      exact ⟨_ :: us, t', rfl, .cons _ _ h'⟩
section
variable {prog : Program} {w : World} {A : Around} {E : Value → Shared → Prop} {s : Shared} {h₀ : Heap} {L : Addr} {m : Str → Option Value} {news : List (Addr × Obj)}
/-- the last item -/
theorem item_last {value slice : Expr} {l : Addr} {us : List Value} {u : Tok} {v : Value} {Q : Value → Shared → Prop}
    (hl : s.heap.IsList l (us ++ [v]).toArray) (h : Q v s)
    (hs : subscripted slice false (.ref l) (.int (-1) u) = operate [.ref l, .int (-1) u] (getItem (.ref l) (.int (-1) u)) := by with_unfolding_all rfl) :
    wpAny (model prog w) A (subscriptTail value slice (.ref l) (.int (-1) u)) Q E s := by
  refine tail_any hl.typeIs slot_list_getitem.lookup (wpAny_getItem_list_neg hl (by decide) ?_ (by decide) ?_ h) hs
  · simp only [List.size_toArray, List.length_append, List.length_singleton]; omega
  · have : ((-1 : Int) + ((us ++ [v]).toArray.size : Int)).toNat = us.length := by simp only [List.size_toArray, List.length_append, List.length_singleton]; omega
    rw [this]; simp
end
theorem lines_F8_3 : True := by
  (k_with "mine subscriptTail Name UnaryOp ref int" => (k_here; (with_reducible show wpAny _ _ (subscriptTail _ _ (Value.ref _) (Value.int _ _)) _ _ _); (with_unfolding_all refine' item_last ?k2_h ?_ ?k6_h; (case k2_h => (first | exact Heap.IsList.at (by assumption) (fun o e => Fr.keep (by assumption) _ o e) | exact listOf_is (News.get (by assumption) (by k_mem)))); (case k6_h => with_unfolding_all rfl); k_whole)))
  (k_with "mine subscriptTail Name Slice ref ref" => (k_here; (with_reducible show wpAny _ _ (subscriptTail _ (PySem.Expr.Slice none (some _) none _) (Value.ref _) (Value.ref _)) _ _ _); k_dflt (refine' kmk_slice_ints ?F_h ?N_h ?l_h ?p_h ?q_h ?i_h ?m_h rfl ?_ ?s_h ?t_h ?z_h; (case F_h => k_asm); (case N_h => k_asm); (case l_h => (first | exact Heap.IsList.at (by assumption) (fun o e => Fr.keep (by assumption) _ o e) | exact listOf_is (News.get (by assumption) (by k_mem)))); (case p_h => kmk_part); (case q_h => kmk_part); (case i_h => assumption); (case m_h => exact kmk_upto_neg (by assumption) (by decide)); (case s_h => with_unfolding_all rfl); (case t_h => kmk_pure); (case z_h => exact kmk_sz (by assumption) (line100 (by assumption)))); intro D_q ws_q h_q F_q N_q l1_q hI_q hC_q hL_q; clear hC_q hL_q; (try k_lt l1_q); (try k_sweep)))
  trivial
theorem trimmed_spec (w : World) (l : Addr) (vs : List Value) (ns : List Int) : SpecS w 1 90 (.ref 179) [.ref l] (fun h => h.IsList l vs.toArray ∧ IntsAre vs ns ∧ ns.length ≤ 100)
    (fun h r h' => ∃ d ws k, r = .ref d ∧ h.get? d = none ∧ h'.get? d = some (listOf (List.toArray ws) k) ∧ IntsAre ws (trim ns)) := by
  unfold SpecS
  intro p lz mean mg mb dp un gd cn cs a ccd cl outer A₀ base h₀ L m s Q E H hdp hu hok hret
  refine hide ?_
  intro GG bk
  obtain ⟨B, F, X, T, hk⟩ := H
  refine bk ?_
  clear bk
  ((refine wpAny_call ?_; k_dflt (refine' enterS ?k1 ?k2 ?k3 ?k5 ?kA ?kF ?kK ?k6 ?k7 ?k8 ?k9 ?kB ?_ ?c2 ?c3 ?c4 ?c5; (case kA => exact rfl); (case kF => exact rfl); (case kK => assumption); (case k1 => k_asm); (case k2 => k_asm); (case k3 => k_asm); (case k5 => k_asm); (case k6 => k_is); (case k7 => k_is); (case k8 => ktr_room); (case k9 => exact BindsTo.of_eq rfl); (case c5 => decide); (case kB => exact locs rfl); (case c2 => exact rfl); (case c3 => exact rfl); (case c4 => exact rfl); k_whole)))
  intro g' L' h' hG FG' F' N' B' X' T'
  refine hide ?_
  intro GG bk
  obtain ⟨hl, hi, hn⟩ := hok
  refine bk ?_
  clear bk
  have hl := hl.at fun o e => hG _ o e
  try dsimp only
  try k_fold
  k_steps
  refine Halt.mk (whl_start 0 ?_)
  rename Fr g' L' _ _ => F8
  rename News g' L' _ _ => N8
  refine whileInd (by passes_own) (Jtrim g' L' _ ns s) ?_ _ _ ⟨_, _, _, _, _, _, rfl, rfl, F8, N8, by assumption, rfl, by assumption⟩
  intro n s' HH2
  refine hide ?_
  intro GG bk
  obtain ⟨h, tk, D, ws, ms, k, rfl, rfl, F9, N9, hI, htr, hms⟩ := HH2
  refine bk ?_
  clear bk
  rcases List.eq_nil_or_concat ms with rfl | ⟨us, a9, rfl⟩
  · cases hI
    try dsimp only
    try k_fold
    k_steps
    rename Fr g' L' _ _ => F7
    rename News g' L' _ _ => N7
    have n1 := N7 _ (List.mem_cons_of_mem _ (List.mem_cons_self ..))
    exact hret _ _ _ (fun b o e => F7.keep b o (hG b o e)) ⟨_, _, _, rfl, fresh_up hG n1.2.2, n1.1, by rw [← htr]; exact .nil⟩
  · rw [List.concat_eq_append] at *
    have hI9 := hI
    refine hide ?_
    intro GG bk
    obtain ⟨uv, t9, rfl, hI8⟩ := ints_snoc hI
    refine bk ?_
    clear bk
    try dsimp only
    try k_fold
    k_steps
    · exact absurd (of_decide_eq_true (by assumption)) (by simp)
    · rename Fr g' L' _ _ => F7
      rename News g' L' _ _ => N7
      rename IntsAre _ (List.take _ _) => hI7
      rename a9 = 0 => e9
      subst e9
      rw [trim_zero] at htr
      have e8 : List.take ((us ++ [(0 : Int)]).length - (- -1 : Int).toNat) (us ++ [0]) = us := by
        have : (us ++ [(0 : Int)]).length - (- -1 : Int).toNat = us.length := by simp
        rw [this, List.take_left]
      rw [e8] at hI7
      refine ⟨us.length, by simp, _, _, _, _, us, _, rfl, rfl, ?_, fun q hq => N7 q (by simp only [List.mem_singleton] at hq; rw [hq]; exact List.mem_cons_self ..), hI7, htr, by simp at hms; omega⟩
      rw [← upd_upd]
      exact F7
    · rename Fr g' L' _ _ => F7
      rename News g' L' _ _ => N7
      have n1 := N7 _ (List.mem_cons_of_mem _ (List.mem_cons_self ..))
      exact hret _ _ _ (fun b o e => F7.keep b o (hG b o e)) ⟨_, _, _, rfl, fresh_up hG n1.2.2, n1.1, by rw [← htr, trim_last _ (by assumption)]; exact hI9⟩
end
end
section
open PySem PySem.W PyProof.Rows PySem.Spec PySem.Calls
section
section
variable {prog : Program} {w : World} {A : Around} {E : Value → Shared → Prop} {s : Shared} {env : Env} {h₀ : Heap} {x : Str} {body : List Stmt} {Q : Flow → Shared → Prop}
/-- a loop whose iterator alone is new: a range, a text -/
theorem forOne {I : Addr} {n : Nat} {P : Nat → Value → Prop} {St : Nat → Heap → Prop} {m₀ : Str → Option Value} {nw₀ : List (Addr × Obj)} {H : Heap} (W : Walks prog w A I [I] [I] n P St) (hal : ∀ i h, St i h → ∃ o, h.get? I = some o)
    (hI : s.heap.get? I = none) (up : Up s.heap H) (hst : St 0 H) (F : Fr h₀ env.locals s.heap m₀) (N : News h₀ env.locals s.heap nw₀)
    (J : Nat → (Str → Option Value) → List (Addr × Obj) → Prop) (h0 : J 0 m₀ nw₀)
    (turn : ∀ i v m₁ nw h tk T, i < n → P i v → J i m₁ nw → Fr h₀ env.locals h (fun y => if y = x then some v else m₁ y) → News h₀ env.locals h (nw ++ T) → Apart nw T →
      wpAny (model prog w) A (execs body env) (LoopEnd h₀ env.locals (J (i + 1)) T { s with heap := h, toks := tk } Q) E { s with heap := h, toks := tk })
    (done : ∀ m₁ nw h tk, J n m₁ nw → Fr h₀ env.locals h m₁ → News h₀ env.locals h nw → Q .next { s with heap := h, toks := tk }) :
    LoopAtV prog w A h₀ env x body Q E (.ref I) { s with heap := H } := by
  have hI₀ : h₀.get? I = none := by
    cases e : h₀.get? I with
    | none => rfl
    | some o => rw [F.keep _ _ e] at hI; cases hI
  refine forWalks (J := fun i m nw => J i m nw ∧ ∀ p ∈ nw, p.1 ∉ [I]) W ?_ ?_ ?_ ?_ (fun _ _ _ j => j.2) hst (F.keeps up) (N.grown up) ⟨h0, ?_⟩ ?_ ?_
  · refine hide ?_
    intro GG bk
    obtain ⟨oL, _, _, hL, _⟩ := F.ns
    refine bk ?_
    clear bk
    simp only [List.mem_singleton]
    intro e; rw [e, hI] at hL; cases hL
  · intro b hb; rw [List.mem_singleton.mp hb]; exact hI₀
  · intro i h st b hb; rw [List.mem_singleton.mp hb]; exact hal i h st
  · intro b hb; exact .inl hb
  · intro p hp hb
    have := (N p hp).1
    rw [List.mem_singleton.mp hb, hI] at this; cases this
  · rintro i v m₁ nw h tk T hi hP ⟨j, _⟩ F₁ N₁ ap hT st
    refine wpAny_mono (turn i v m₁ nw h tk T hi hP j F₁ N₁ ap) (fun f s₂ r => ?_) fun _ _ e => e
    obtain ⟨oI, hTI⟩ := hT _ (List.mem_cons_self ..) hI₀
    have fin : (∃ h' tk' m' nw', s₂ = { ({ s with heap := h, toks := tk } : Shared) with heap := h', toks := tk' } ∧ Fr h₀ env.locals h' m' ∧ News h₀ env.locals h' (nw' ++ T) ∧ Apart nw' T ∧ J (i + 1) m' nw') →
        ∃ h' tk' m' nw', s₂ = { ({ s with heap := h, toks := tk } : Shared) with heap := h', toks := tk' } ∧ Fr h₀ env.locals h' m' ∧ News h₀ env.locals h' (nw' ++ T) ∧ Apart nw' T ∧ J (i + 1) m' nw' ∧ ∀ p ∈ nw', p.1 ∉ [I] := by
      intro HH0
      refine hide ?_
      intro GG bk
      obtain ⟨h', tk', m', nw', e, F', N', ap', j'⟩ := HH0
      refine bk ?_
      clear bk
      refine ⟨h', tk', m', nw', e, F', N', ap', j', fun p hp hb => ?_⟩
      exact ap' p hp _ hTI (List.mem_singleton.mp hb)
    cases f with
    | ret v => exact r
    | brk => exact r
    | next => exact fin r
    | cont => exact fin r
  · rintro m₁ nw h tk ⟨j, _⟩ F₁ N₁
    exact done m₁ nw h tk j F₁ N₁

theorem forStr {xt : Str} {tx : Tok} {m₀ : Str → Option Value} {nw₀ : List (Addr × Obj)} (hh : A.handled = none) (ha : xt.cps.all (· < 128) = true) (F : Fr h₀ env.locals s.heap m₀) (N : News h₀ env.locals s.heap nw₀)
    (J : Nat → (Str → Option Value) → List (Addr × Obj) → Prop) (h0 : J 0 m₀ nw₀)
    (turn : ∀ i c u m₁ nw h tk T, xt.cps[i]? = some c → J i m₁ nw → Fr h₀ env.locals h (fun y => if y = x then some (.str ⟨#[c]⟩ u) else m₁ y) → News h₀ env.locals h (nw ++ T) → Apart nw T →
      wpAny (model prog w) A (execs body env) (LoopEnd h₀ env.locals (J (i + 1)) T { s with heap := h, toks := tk } Q) E { s with heap := h, toks := tk })
    (done : ∀ m₁ nw h tk, J xt.cps.size m₁ nw → Fr h₀ env.locals h m₁ → News h₀ env.locals h nw → Q .next { s with heap := h, toks := tk }) :
    wpAny (model prog w) A (pyIter (.str xt tx)) (fun it s₂ => LoopAtV prog w A h₀ env x body Q E it s₂) E s := by
  refine wpAny_pyIter_ascii ha ?_
  refine forOne (Walks.strAscii hh s.heap.objs.size xt tx) (fun i h st => let ⟨o, ho, _⟩ := st; ⟨o, ho⟩) (Heap.get?_none_of_le (Nat.le_refl _)) (fun b o e => Heap.get?_push_of_some _ e) ⟨_, Heap.get?_push_size _ rfl, rfl, rfl⟩ F N J h0 ?_ done
  intro i v m₁ nw h tk T hi HH8 j F₁ N₁ ap
  refine hide ?_
  intro GG bk
  obtain ⟨c, u, hc, rfl⟩ := HH8
  refine bk ?_
  clear bk
  exact turn i c u m₁ nw h tk T hc j F₁ N₁ ap
theorem forRange {r : Addr} {a b : Int} {t u v : Tok} {n : Nat} {m₀ : Str → Option Value} {nw₀ : List (Addr × Obj)} (hh : A.handled = none) (hr : IsRange s.heap r a b 1 t u v) (hsm : Builtin.Range.small a b 1 = true) (hn : Builtin.Range.rangeSize a b 1 = ((n : Nat) : Int))
    (F : Fr h₀ env.locals s.heap m₀) (N : News h₀ env.locals s.heap nw₀)
    (J : Nat → (Str → Option Value) → List (Addr × Obj) → Prop) (h0 : J 0 m₀ nw₀)
    (turn : ∀ i u m₁ nw h tk T, i < n → J i m₁ nw → Fr h₀ env.locals h (fun y => if y = x then some (.int (a + (i : Int)) u) else m₁ y) → News h₀ env.locals h (nw ++ T) → Apart nw T →
      wpAny (model prog w) A (execs body env) (LoopEnd h₀ env.locals (J (i + 1)) T { s with heap := h, toks := tk } Q) E { s with heap := h, toks := tk })
    (done : ∀ m₁ nw h tk, J n m₁ nw → Fr h₀ env.locals h m₁ → News h₀ env.locals h nw → Q .next { s with heap := h, toks := tk }) :
    wpAny (model prog w) A (pyIter (.ref r)) (fun it s₂ => LoopAtV prog w A h₀ env x body Q E it s₂) E s := by
  refine wpAny_pyIter_range hr hsm ?_
  refine forOne (LCg.range_walks hh a n) (fun i h st => ⟨_, st⟩) (Heap.get?_none_of_le (Nat.le_refl _)) (fun b o e => Heap.get?_push_of_some _ e) (by show IsRangeIter _ _ _ _ _; rw [hn]; simpa using Heap.get?_push_size _ rfl) F N J h0 ?_ done
  rintro i v m₁ nw h tk T hi ⟨t, rfl⟩ j F₁ N₁ ap
  exact turn i t m₁ nw h tk T hi j F₁ N₁ ap
end
section
variable {prog : Program} {w : World} {A : Around} {K : Frag} {C : Addr} {R : Result → Shared → Prop} {s : Shared} {h₀ : Heap} {L : Addr} {m : Str → Option Value}
/-- an object of a class is made: its dict and itself are all that is new -/
theorem makeS {rest : List Value} {kw : List (Str × Value)} {fI : Addr} (F : Fr h₀ L s.heap m) (X : K.In s.heap) (hm : makesIn K C = true)
    (hi : findIn K (.ref C) "__init__" = some (some (.ref fI))) (hf : typeIn K (.ref fI) = some (.type "function"))
    (h : ∀ (x dx : Nat) h', Fr h₀ L h' m → News h₀ L h' [(x, instObj C dx), (dx, emptyDict)] → dx < x → Up s.heap h' → s.heap.get? x = none → s.heap.get? dx = none →
      codeAny (model prog w) (A.under (.builtin "type.__call__" ⟨.ref C :: rest, kw⟩)) (.call (.ref fI) ⟨.ref x :: rest, kw⟩) (InitBack x R) { s with heap := h' }) :
    codeAny (model prog w) A (.call (.ref C) ⟨rest, kw⟩) R s := by
  obtain ⟨hh, g, d, t, os⟩ := s
  have N : News h₀ L hh [] := News.nil
  refine make_core (makes_of X hm) (looks_findIn X hi) (fun self => bind_fn X self hf) (.inl rfl) (h _ hh.objs.size _ ((F.push _).push _) ?_ (Nat.lt_succ_self _) (fun b o e => Heap.get?_push_of_some _ (Heap.get?_push_of_some _ e)) (Heap.get?_none_of_le (Nat.le_succ _)) (Heap.get?_none_of_le (Nat.le_refl _)))
  have := (N.push F emptyDict).push (F.push _) (instObj C hh.objs.size)
  rwa [Heap.size_push] at this
end
theorem inst_base {h₀ h : Heap} {L x C dx : Addr} {m : Str → Option Value} {od : Obj} (F : Fr h₀ L h m) (h1 : h₀.get? x = some (instObj C dx)) (h2 : h₀.get? dx = some od) : InstAt h x (instObj C dx) C (some od) :=
  InstAt.of_news (h₀ := Heap.mk #[] {}) (L := x + dx + 1) (news := [(x, instObj C dx), (dx, od)]) (fun p hp => by
    simp only [List.mem_cons, List.not_mem_nil, or_false] at hp
    rcases hp with rfl | rfl
    · exact ⟨F.keep _ _ h1, Nat.ne_of_lt (Nat.lt_succ_of_le (Nat.le_add_right _ _)), rfl⟩
    · exact ⟨F.keep _ _ h2, Nat.ne_of_lt (Nat.lt_succ_of_le (Nat.le_add_left _ _)), rfl⟩) (List.mem_cons_self ..) (List.mem_cons_of_mem _ (List.mem_cons_self ..))
end
end
section
open PySem PySem.W PyProof.Rows PySem.Spec PySem.Calls
section
theorem top_off_F9 : True := by
  w_top off
  k_with_none
  trivial

theorem lines_F9_1 : True := by
  (k_with "mine subscriptTail Name Constant ref int" => (k_here; (with_reducible show wpAny _ _ (subscriptTail _ _ (Value.ref _) (Value.int _ _)) _ _ _); (with_unfolding_all refine' item_base ?k1_h ?k2_h ?k3_h ?k4_h ?k5_h ?_ ?k6_h; (case k1_h => k_asm); (case k2_h => assumption); (case k3_h => decide); (case k4_h => decide); (case k5_h => first | exact at3_0 | exact at3_1 | exact at3_2); (case k6_h => with_unfolding_all rfl); k_whole)))
  (k_with "mine call builtin:min" => (k_here; (with_reducible show wpAny _ _ (call (Value.builtin _) [Value.ref _]) _ _ _); k_dflt (refine' minLK ?k1_h ?k2_h ?k3_h ?k4_h ?_; (case k1_h => k_asm); (case k2_h => k_asm); (case k3_h => exact rfl); (case k4_h => assumption); k_whole); intro y_q h_q tk_q F_q N_q; (try dsimp only); (try k_sweep)))
  (k_with "mine call builtin:max" => (k_here; (with_reducible show wpAny _ _ (call (Value.builtin _) [Value.ref _]) _ _ _); k_dflt (refine' maxLK ?k1_h ?k2_h ?k3_h ?k4_h ?_; (case k1_h => k_asm); (case k2_h => k_asm); (case k3_h => exact rfl); (case k4_h => assumption); k_whole); intro y_q h_q tk_q F_q N_q; (try dsimp only); (try k_sweep)))
  (k_with "mine eval ListComp" => (k_here; refine Halt.out ?_))
  (k_with "mine exec Assign cons ListComp" => (k_here; refine Halt.out ?_))
  (k_with "mine pyIter ref" => (k_here; refine Halt.out ?_))
  (k_with "mine compareOp NotEq ref ref" => (k_here; k_dflt (refine' ke_ne_ints ?k1_h ?k2_h ?k3_h ?k4_h ?k5_h ?_; (case k1_h => (first | exact Heap.IsList.at (by assumption) (fun o e => Fr.keep (by assumption) _ o e) | exact listOf_is (News.get (by assumption) (by k_mem)))); (case k2_h => (first | exact Heap.IsList.at (by assumption) (fun o e => Fr.keep (by assumption) _ o e) | exact listOf_is (News.get (by assumption) (by k_mem)))); (case k3_h => (first | exact ints3 | exact IntsAre.nil | assumption)); (case k4_h => (first | exact ints3 | exact IntsAre.nil | assumption)); (case k5_h => ktr_units); k_whole)))
  (k_with "mine compareOp Eq ref ref" => (k_here; k_dflt (refine' ke_eq_ints ?k1_h ?k2_h ?k3_h ?k4_h ?k5_h ?_; (case k1_h => (first | exact Heap.IsList.at (by assumption) (fun o e => Fr.keep (by assumption) _ o e) | exact listOf_is (News.get (by assumption) (by k_mem)))); (case k2_h => (first | exact Heap.IsList.at (by assumption) (fun o e => Fr.keep (by assumption) _ o e) | exact listOf_is (News.get (by assumption) (by k_mem)))); (case k3_h => (first | exact ints3 | exact IntsAre.nil | assumption)); (case k4_h => (first | exact ints3 | exact IntsAre.nil | assumption)); (case k5_h => ktr_units); k_whole)))
  trivial
theorem few_of {vs : List Value} {ns : List Int} {n : Nat} (hi : IntsAre vs ns) (h1 : ns.length ≤ n) (h2 : n ≤ 1000) : vs.toArray.size ≤ 16384 := by
  rw [List.size_toArray, hi.length]; omega
theorem lines_F9_2 : True := by
  (k_with "mine call type:tuple" => (k_here; (with_reducible show wpAny _ _ (call (Value.type _) [Value.ref _]) _ _ _); k_dflt (refine' kde_tupleOf ?k1_h ?k2_h ?k3_h ?k4_h ?k5_h ?_; (case k1_h => k_asm); (case k2_h => k_asm); (case k3_h => exact listOf_is (News.get (by assumption) (by k_mem))); (case k4_h => exact few_of (by assumption) (by assumption) (by omega)); (case k5_h => exact rfl); k_whole); intro D_q h_q F_q N_q l1_q; (try k_lt l1_q); (try k_sweep)))
  (k_with "mine pyIter str" => (k_here; refine Halt.out ?_))
  trivial
/-- a tab behind b blanks is counted -/
def bump (cnt : List Int) (b : Nat) : List Int :=
  let c := if b < cnt.length then cnt else cnt ++ List.replicate (b - cnt.length + 1) 0
  c.set b (c.getD b 0 + 1)
structure WsSt where
  cnt : List Int
  b : Nat
  n : Nat
  nt : Nat
def wsStep (st : WsSt) (c : Nat) : WsSt := if c = 32 then ⟨st.cnt, st.b + 1, st.n + 1, st.nt⟩ else ⟨bump st.cnt st.b, 0, st.n + 1, st.nt + 1⟩
def wsRun (cs : List Nat) : WsSt := (cs.takeWhile fun c => c = 32 || c = 9).foldl wsStep ⟨[], 0, 0, 0⟩
abbrev wsM (u : Option Value) (nt n b : Value) (D : Addr) (m₀ : Str → Option Value) : Str → Option Value := fun y =>
  if y = Str.ofString "ch" then u else if y = Str.ofString "nt" then some nt else if y = Str.ofString "n" then some n else if y = Str.ofString "b" then some b else if y = Str.ofString "count" then some (.ref D) else m₀ y
abbrev wsNames : List Str := [Str.ofString "ch", Str.ofString "nt", Str.ofString "n", Str.ofString "b", Str.ofString "count"]
theorem wsM_ext {f m₀ : Str → Option Value} {u : Option Value} {nt n b : Value} {D : Addr} (h1 : f (Str.ofString "ch") = u) (h2 : f (Str.ofString "nt") = some nt) (h3 : f (Str.ofString "n") = some n) (h4 : f (Str.ofString "b") = some b) (h5 : f (Str.ofString "count") = some (.ref D))
    (hr : ∀ y, y ∉ wsNames → f y = m₀ y) : f = wsM u nt n b D m₀ := by
  funext y
  unfold wsM
  by_cases e1 : y = Str.ofString "ch"
  · rw [if_pos e1, e1, h1]
  rw [if_neg e1]
  by_cases e2 : y = Str.ofString "nt"
  · rw [if_pos e2, e2, h2]
  rw [if_neg e2]
  by_cases e3 : y = Str.ofString "n"
  · rw [if_pos e3, e3, h3]
  rw [if_neg e3]
  by_cases e4 : y = Str.ofString "b"
  · rw [if_pos e4, e4, h4]
  rw [if_neg e4]
  by_cases e5 : y = Str.ofString "count"
  · rw [if_pos e5, e5, h5]
  rw [if_neg e5]
  exact hr y (by simp [e1, e2, e3, e4, e5])
/-- between the turns -/
structure Jws (m₀ : Str → Option Value) (o dx : Addr) (od : Obj) (cs : List Nat) (i : Nat) (m₁ : Str → Option Value) (nw : List (Addr × Obj)) : Prop where
  body : ∃ D cv k st t1 t2 t3, nw = [(D, W.listOf (List.toArray cv) k), (o, instObj 146 dx), (dx, od)] ∧ dx < o ∧ o < D ∧ (∀ y, y ∉ wsNames → m₁ y = m₀ y) ∧
    m₁ (Str.ofString "nt") = some (.int (WsSt.nt st : Nat) t1) ∧ m₁ (Str.ofString "n") = some (.int (WsSt.n st : Nat) t2) ∧ m₁ (Str.ofString "b") = some (.int (WsSt.b st : Nat) t3) ∧ m₁ (Str.ofString "count") = some (.ref D) ∧
    IntsAre cv (WsSt.cnt st) ∧ st = (cs.take i).foldl wsStep ⟨[], 0, 0, 0⟩ ∧ (∀ c ∈ cs.take i, c = 32 ∨ c = 9) ∧ st.b ≤ i ∧ st.n ≤ i ∧ st.nt ≤ i ∧ st.cnt.length ≤ i
theorem Jws.zero {m₀ : Str → Option Value} {o dx D : Addr} {od : Obj} {cs : List Nat} {t1 t2 t3 : Tok} {k : Nat} (h1 : dx < o) (h2 : o < D) :
    Jws m₀ o dx od cs 0 (fun y => if y = Str.ofString "nt" then some (.int 0 t1) else if y = Str.ofString "n" then some (.int 0 t2) else if y = Str.ofString "b" then some (.int 0 t3) else if y = Str.ofString "count" then some (.ref D) else m₀ y)
      [(D, W.listOf #[] k), (o, instObj 146 dx), (dx, od)] := by
  refine ⟨D, [], k, ⟨[], 0, 0, 0⟩, t1, t2, t3, rfl, h1, h2, ?_, rfl, rfl, rfl, rfl, .nil, rfl, ?_, Nat.le_refl _, Nat.le_refl _, Nat.le_refl _, Nat.le_refl _⟩
  · intro y hy
    simp only [List.mem_cons, List.not_mem_nil, or_false, not_or] at hy
    rw [if_neg hy.2.1, if_neg hy.2.2.1, if_neg hy.2.2.2.1, if_neg hy.2.2.2.2]
  · intro c hc; simp at hc
theorem one_inj {c d : Nat} (e : (⟨#[c]⟩ : Str) = ⟨#[d]⟩) : c = d := by
  have := congrArg Str.cps e
  simpa using this
theorem bump_in {cnt : List Int} {b : Nat} (h : ¬ ((cnt.length : Nat) : Int) ≤ (b : Int)) : cnt.set ((b : Nat) : Int).toNat (cnt.getD ((b : Nat) : Int).toNat 0 + 1) = bump cnt b := by
  have h' : b < cnt.length := by omega
  unfold bump
  rw [if_pos h', Int.toNat_natCast]
theorem flat_rep (n : Nat) : (List.replicate n [(0 : Int)]).flatten = List.replicate n 0 := by
  induction n with
  | zero => rfl
  | succ n ih => rw [List.replicate_succ, List.flatten_cons, ih]; rfl
theorem bump_out {cnt : List Int} {b : Nat} (h : ((cnt.length : Nat) : Int) ≤ (b : Int)) :
    (cnt ++ (List.replicate ((b : Int) - (cnt.length : Int) + 1).toNat [0]).flatten).set ((b : Nat) : Int).toNat ((cnt ++ (List.replicate ((b : Int) - (cnt.length : Int) + 1).toNat [0]).flatten).getD ((b : Nat) : Int).toNat 0 + 1) = bump cnt b := by
  have h' : ¬ b < cnt.length := by omega
  have e : ((b : Int) - (cnt.length : Int) + 1).toNat = b - cnt.length + 1 := by omega
  unfold bump
  rw [if_neg h', Int.toNat_natCast, e, flat_rep]
theorem bump_len (cnt : List Int) (b i : Nat) (h1 : cnt.length ≤ i) (h2 : b ≤ i) : (bump cnt b).length ≤ i + 1 := by
  unfold bump
  rw [List.length_set]
  split
  · omega
  · rw [List.length_append, List.length_replicate]; omega
theorem Jws.next {g h' : Heap} {L : Addr} {m₀ m' : Str → Option Value} {o dx D' : Addr} {od : Obj} {cs : List Nat} {i c k' : Nat} {st : WsSt} {cv' : List Value} {T all : List (Addr × Obj)} {s₁ : Shared} {Q : Flow → Shared → Prop} {tk : Nat} {t1 t2 t3 : Tok}
    (F : Fr g L h' m') (N : News g L h' all) (hN : ∀ q, q ∈ [(D', W.listOf cv'.toArray k'), (o, instObj 146 dx), (dx, od)] ++ T → q ∈ all) (ap : Apart [(D', W.listOf cv'.toArray k'), (o, instObj 146 dx), (dx, od)] T) (h1 : dx < o) (h2 : o < D')
    (hr : ∀ y, y ∉ wsNames → m' y = m₀ y) (e1 : m' (Str.ofString "nt") = some (.int ((wsStep st c).nt : Nat) t1)) (e2 : m' (Str.ofString "n") = some (.int ((wsStep st c).n : Nat) t2)) (e3 : m' (Str.ofString "b") = some (.int ((wsStep st c).b : Nat) t3)) (e4 : m' (Str.ofString "count") = some (.ref D'))
    (hI : IntsAre cv' (wsStep st c).cnt) (hst : st = (cs.take i).foldl wsStep ⟨[], 0, 0, 0⟩) (hcs : ∀ c ∈ cs.take i, c = 32 ∨ c = 9) (hc : cs[i]? = some c) (hcc : c = 32 ∨ c = 9) (b1 : st.b ≤ i) (b2 : st.n ≤ i) (b3 : st.nt ≤ i) (b4 : st.cnt.length ≤ i) :
    LoopEnd g L (Jws m₀ o dx od cs (i + 1)) T s₁ Q .next { s₁ with heap := h', toks := tk } := by
  refine LoopEnd.intro F (fun q hq => N q (hN q hq)) ap ⟨D', cv', k', wsStep st c, t1, t2, t3, rfl, h1, h2, hr, e1, e2, e3, e4, hI, ?_, ?_, ?_, ?_, ?_, ?_⟩
  · rw [List.take_add_one, hc, Option.toList_some, List.foldl_append, ← hst]; rfl
  · intro c' hc'
    rw [List.take_add_one, hc, Option.toList_some, List.mem_append] at hc'
    rcases hc' with hc' | hc'
    · exact hcs c' hc'
    · rw [List.mem_singleton.mp hc']; exact hcc
  all_goals (unfold wsStep; split <;> dsimp only <;> first | omega | exact bump_len _ _ _ b4 b1)
theorem Apart.three {a b c : Addr} {x y z x' : Obj} {T : List (Addr × Obj)} (h : Apart [(a, x), (b, y), (c, z)] T) : Apart [(a, x'), (b, y), (c, z)] T := by
  intro p hp q hq
  simp only [List.mem_cons, List.not_mem_nil, or_false] at hp
  rcases hp with rfl | rfl | rfl
  · exact h (a, x) (List.mem_cons_self ..) q hq
  · exact h (b, y) (List.mem_cons_of_mem _ (List.mem_cons_self ..)) q hq
  · exact h (c, z) (List.mem_cons_of_mem _ (List.mem_cons_of_mem _ (List.mem_cons_self ..))) q hq
theorem Apart.threeN {a a' b c : Addr} {x y z x' : Obj} {T : List (Addr × Obj)} (h : Apart [(a, x), (b, y), (c, z)] T) (l : AllLt a' T) : Apart [(a', x'), (b, y), (c, z)] T := by
  intro p hp q hq
  simp only [List.mem_cons, List.not_mem_nil, or_false] at hp
  rcases hp with rfl | rfl | rfl
  · exact (Nat.ne_of_lt (allLt_mem l _ hq)).symm
  · exact h (b, y) (List.mem_cons_of_mem _ (List.mem_cons_self ..)) q hq
  · exact h (c, z) (List.mem_cons_of_mem _ (List.mem_cons_of_mem _ (List.mem_cons_self ..))) q hq
theorem wsRun_done {cs : List Nat} {n : Nat} (hn : cs.length ≤ n) (h : ∀ c ∈ cs.take n, c = 32 ∨ c = 9) : (cs.take n).foldl wsStep ⟨[], 0, 0, 0⟩ = wsRun cs := by
  rw [List.take_of_length_le hn] at h ⊢
  unfold wsRun
  have e := List.takeWhile_append_of_pos (p := fun c => decide (c = 32) || decide (c = 9)) (l₁ := cs) (l₂ := []) (fun a ha => by rcases h a ha with e | e <;> simp [e])
  simp only [List.append_nil, List.takeWhile_nil] at e
  rw [e]
theorem wsRun_brk {cs : List Nat} {i c : Nat} (hc : cs[i]? = some c) (h1 : c ≠ 32) (h2 : c ≠ 9) (h : ∀ c ∈ cs.take i, c = 32 ∨ c = 9) : (cs.take i).foldl wsStep ⟨[], 0, 0, 0⟩ = wsRun cs := by
  unfold wsRun
  have e : cs = cs.take i ++ c :: cs.drop (i + 1) := by
    obtain ⟨hlt, rfl⟩ := List.getElem?_eq_some_iff.mp hc
    rw [← List.drop_eq_getElem_cons hlt, List.take_append_drop]
  have e2 : (cs.takeWhile fun c => c = 32 || c = 9) = cs.take i := by
    conv => lhs; rw [e]
    rw [List.takeWhile_append_of_pos (fun a ha => by rcases h a ha with e | e <;> simp [e]), List.takeWhile_cons_of_neg (by simp [h1, h2]), List.append_nil]
  rw [e2]
/-- the dict of a Whitespace -/
abbrev wsDict (w : World) (x : Str) (t : Tok) (st : WsSt) (nm : Addr) (k1 k2 k3 k4 k5 t1 t2 : Tok) : Obj :=
  dictOf [{ hash := PyData.keyHash w.params (Str.ofString "raw"), key := .str (Str.ofString "raw") k1, val := .str x t }, { hash := PyData.keyHash w.params (Str.ofString "n"), key := .str (Str.ofString "n") k2, val := .int ((st.n : Nat) : Int) t1 },
    { hash := PyData.keyHash w.params (Str.ofString "nt"), key := .str (Str.ofString "nt") k3, val := .int ((st.nt : Nat) : Int) t2 }, { hash := PyData.keyHash w.params (Str.ofString "norm"), key := .str (Str.ofString "norm") k4, val := .ref nm },
    { hash := PyData.keyHash w.params (Str.ofString "is_simple"), key := .str (Str.ofString "is_simple") k5, val := .bool (decide (((st.cnt.length : Nat) : Int) ≤ 1)) }] 5
/-- a Whitespace that read st -/
def WsAt (w : World) (st : WsSt) (h : Heap) (o : Addr) : Prop :=
  ∃ dx nm ct cv x t k1 k2 k3 k4 k5 t1 t2 t3, h.get? o = some (instObj 146 dx) ∧ h.get? dx = some (wsDict w x t st nm k1 k2 k3 k4 k5 t1 t2) ∧ h.get? nm = some (tup [.ref ct, .int ((st.b : Nat) : Int) t3]) ∧ h.get? ct = some (tup cv) ∧ IntsAre cv st.cnt
theorem WsAt.up {w : World} {st : WsSt} {h h' : Heap} {o : Addr} (W : WsAt w st h o) (up : Up h h') : WsAt w st h' o := by
  obtain ⟨dx, nm, ct, cv, x, t, k1, k2, k3, k4, k5, t1, t2, t3, a, b, c, d, e⟩ := W
  exact ⟨dx, nm, ct, cv, x, t, k1, k2, k3, k4, k5, t1, t2, t3, up _ _ a, up _ _ b, up _ _ c, up _ _ d, e⟩
theorem WsAt.make {w : World} {st : WsSt} {g h' : Heap} {L o dx nm ct D : Addr} {cv : List Value} {x : Str} {t k1 k2 k3 k4 k5 t1 t2 t3 : Tok} {oD : Obj} {T : List (Addr × Obj)}
    (N : News g L h' ((nm, { cls := .type "tuple", data := .seq #[.ref ct, .int ((st.b : Nat) : Int) t3] }) :: (ct, { cls := .type "tuple", data := .seq cv.toArray.toList.toArray }) :: (D, oD) :: (o, instObj 146 dx) :: (dx, wsDict w x t st nm k1 k2 k3 k4 k5 t1 t2) :: T)) (hI : IntsAre cv st.cnt) : WsAt w st h' o :=
  ⟨dx, nm, ct, cv, x, t, k1, k2, k3, k4, k5, t1, t2, t3, (N (o, _) (.tail _ (.tail _ (.tail _ (.head _))))).1, (N (dx, _) (.tail _ (.tail _ (.tail _ (.tail _ (.head _)))))).1, (N (nm, _) (.head _)).1, (N (ct, _) (.tail _ (.head _))).1, hI⟩
/-- a Whitespace that was not there before -/
def WsNew (w : World) (st : WsSt) (h h' : Heap) (o : Addr) : Prop :=
  ∃ dx nm ct cv x t k1 k2 k3 k4 k5 t1 t2 t3, h.get? o = none ∧ h.get? dx = none ∧ h.get? nm = none ∧ h.get? ct = none ∧ h'.get? o = some (instObj 146 dx) ∧ h'.get? dx = some (wsDict w x t st nm k1 k2 k3 k4 k5 t1 t2) ∧ h'.get? nm = some (tup [.ref ct, .int ((st.b : Nat) : Int) t3]) ∧ h'.get? ct = some (tup cv) ∧ IntsAre cv st.cnt
theorem WsNew.at {w : World} {st : WsSt} {h h' : Heap} {o : Addr} (W : WsNew w st h h' o) : WsAt w st h' o := by
  obtain ⟨dx, nm, ct, cv, x, t, k1, k2, k3, k4, k5, t1, t2, t3, _, _, _, _, r⟩ := W
  exact ⟨dx, nm, ct, cv, x, t, k1, k2, k3, k4, k5, t1, t2, t3, r⟩
theorem WsNew.make {w : World} {st : WsSt} {h g h' : Heap} {L o dx nm ct D : Addr} {cv : List Value} {x : Str} {t k1 k2 k3 k4 k5 t1 t2 t3 : Tok} {oD : Obj} {T : List (Addr × Obj)} (hG : Up h g) (fo : h.get? o = none) (fdx : h.get? dx = none)
    (N : News g L h' ((nm, { cls := .type "tuple", data := .seq #[.ref ct, .int ((st.b : Nat) : Int) t3] }) :: (ct, { cls := .type "tuple", data := .seq cv.toArray.toList.toArray }) :: (D, oD) :: (o, instObj 146 dx) :: (dx, wsDict w x t st nm k1 k2 k3 k4 k5 t1 t2) :: T)) (hI : IntsAre cv st.cnt) : WsNew w st h h' o :=
  ⟨dx, nm, ct, cv, x, t, k1, k2, k3, k4, k5, t1, t2, t3, fo, fdx, fresh_up hG (N (nm, _) (.head _)).2.2, fresh_up hG (N (ct, _) (.tail _ (.head _))).2.2, (N (o, _) (.tail _ (.tail _ (.tail _ (.head _))))).1, (N (dx, _) (.tail _ (.tail _ (.tail _ (.tail _ (.head _)))))).1, (N (nm, _) (.head _)).1, (N (ct, _) (.tail _ (.head _))).1, hI⟩
def WsOut (w : World) (x : Str) (h : Heap) (r : Value) (h' : Heap) : Prop := ∃ o, r = .ref o ∧ WsNew w (wsRun x.cps.toList) h h' o
theorem ws_spec (w : World) (x : Str) (t : Tok) : SpecS w 3 30 (.ref 146) [.str x t] (fun _ => x.cps.all (· < 128) = true ∧ x.cps.size ≤ 1000)
    (fun h r h' => WsOut w x h r h') := by
  unfold SpecS
  intro p lz mean mg mb dp un gd cn cs a ccd cl outer A₀ base h₀ L m s Q E H hdp hu hok hret
  refine hide ?_
  intro GG bk
  obtain ⟨B, F, X, T, hk⟩ := H
  refine bk ?_
  clear bk
  refine wpAny_call ?_
  have X9 := X.keeps F.keep
  refine makeS (fI := 101) F X9 (by k_is) (by k_is) (by k_is) ?_
  intro o dx h1 F1 N1 ne1 up1 fo fdx
  k_dflt (refine' enterG ?k1 ?k2 ?k3 ?k4 ?k5 ?kA ?kF ?kK ?k6 ?k7 ?k8 ?k9 ?kB ?_ ?c2 ?c3 ?c4 ?c5)
  (case kA => exact rfl); (case kF => exact rfl); (case kK => assumption); (case k1 => k_asm); (case k2 => exact F1); (case k3 => k_asm); (case k4 => exact N1); (case k5 => k_asm); (case k6 => k_is); (case k7 => k_is); (case k8 => ktr_room); (case k9 => exact BindsTo.of_eq rfl); (case c5 => decide); (case kB => exact locs rfl); (case c2 => exact rfl); (case c3 => exact rfl); (case c4 => exact rfl)
  intro g' L' h' hG9 _ FG' F' N' B' X' T' _
  have hG : Up s.heap g' := fun b o' e => hG9 b o' (up1 b o' e) (by
    simp only [List.map_cons, List.map_nil, List.mem_cons, List.not_mem_nil, or_false, not_or]
    exact ⟨ne_of_fresh fo e, ne_of_fresh fdx e⟩)
  clear hG9 up1 F1 N1
  try dsimp only
  try k_fold
  k_steps
  refine Halt.mk ?_
  rename Fr g' L' _ _ => F8
  rename News g' L' _ _ => N8
  have N7 : News g' L' _ [_, _, _] := fun q hq => N8 q (by
    simp only [List.mem_cons, List.not_mem_nil, or_false] at hq ⊢
    rcases hq with hq | hq | hq
    · exact .inl hq
    · exact .inr (.inr (.inl hq))
    · exact .inr (.inr (.inr hq)))
  rename _ < _ ∧ o < _ ∧ dx < _ => l9
  refine forStr rfl hok.1 F8 N7 (Jws _ o dx _ x.cps.toList) (Jws.zero (by assumption) l9.2.1) ?_ ?_
  · intro i c u m₁ nw h tk T hc HH9 F9 N9 ap
    refine hide ?_
    intro GG bk
    obtain ⟨D, cv, k, st, t1, t2, t3, rfl, hdo, hoD, hr, e1, e2, e3, e4, hI, hst, hcs, b1, b2, b3, b4⟩ := HH9
    refine bk ?_
    clear bk
    have off9 : OwnOff T [D, o, dx] := fun q hq b hb => by
      simp only [List.mem_cons, List.not_mem_nil, or_false] at hb
      rcases hb with rfl | rfl | rfl
      · exact (ap _ (List.mem_cons_self ..) q hq).symm
      · exact (ap _ (List.mem_cons_of_mem _ (List.mem_cons_self ..)) q hq).symm
      · exact (ap _ (List.mem_cons_of_mem _ (List.mem_cons_of_mem _ (List.mem_cons_self ..))) q hq).symm
    have hdo9 := ltN hdo
    have hoD9 := ltN hoD
    have hcl : x.cps.toList[i]? = some c := by simpa using hc
    have hc1 : i < x.cps.size := (Array.getElem?_eq_some_iff.mp hc).1
    have hc2 := hok.2
    have em : m₁ = wsM (m₁ (Str.ofString "ch")) _ _ _ D _ := wsM_ext rfl e1 e2 e3 e4 hr
    rw [em] at F9
    simp only [List.cons_append, List.nil_append] at N9
    by_cases h32 : c = 32
    · subst h32
      try dsimp only
      try k_fold
      k_steps
      rename Fr g' L' _ _ => F7
      rename News g' L' _ _ => N7
      refine Jws.next (c := 32) F7 N7 (fun q hq => hq) ap hdo hoD ?_ rfl rfl rfl rfl hI hst hcs hcl (.inl rfl) b1 b2 b3 b4
      intro y hy
      simp only [List.mem_cons, List.not_mem_nil, or_false, not_or] at hy
      simp only [if_neg hy.1, if_neg hy.2.1, if_neg hy.2.2.1, if_neg hy.2.2.2.1, if_neg hy.2.2.2.2]
    by_cases h9 : c = 9
    · subst h9
      try dsimp only
      try k_fold
      k_steps
      · rename Fr g' L' _ _ => F7
        rename News g' L' _ _ => N7
        rename IntsAre _ (List.set _ _ _) => hI7
        rename ((st.cnt.length : Nat) : Int) ≤ (st.b : Int) => hle
        rename _ ∧ _ ∧ _ ∧ _ ∧ _ ∧ AllLt _ T => l7
        rw [bump_out hle] at hI7
        refine Jws.next (c := 9) (k' := 0) F7 N7 ?_ (Apart.threeN ap l7.2.2.2.2.2) hdo l7.2.2.2.1 ?_ rfl rfl rfl rfl hI7 hst hcs hcl (.inr rfl) b1 b2 b3 b4
        · intro q hq
          simp only [List.mem_cons, List.mem_append, List.not_mem_nil, or_false] at hq ⊢
          rcases hq with (hq | hq | hq) | hq
          · exact .inl hq
          · exact .inr (.inr (.inr (.inr (.inl hq))))
          · exact .inr (.inr (.inr (.inr (.inr (.inl hq)))))
          · exact .inr (.inr (.inr (.inr (.inr (.inr hq)))))
        · intro y hy
          simp only [List.mem_cons, List.not_mem_nil, or_false, not_or] at hy
          simp only [if_neg hy.1, if_neg hy.2.1, if_neg hy.2.2.1, if_neg hy.2.2.2.1, if_neg hy.2.2.2.2]
      · rename Fr g' L' _ _ => F7
        rename News g' L' _ _ => N7
        rename IntsAre _ (List.set _ _ _) => hI7
        rename ¬ ((st.cnt.length : Nat) : Int) ≤ (st.b : Int) => hle
        rw [bump_in hle] at hI7
        refine Jws.next (c := 9) F7 N7 (fun q hq => hq) (Apart.three ap) hdo hoD ?_ rfl rfl rfl rfl hI7 hst hcs hcl (.inr rfl) b1 b2 b3 b4
        intro y hy
        simp only [List.mem_cons, List.not_mem_nil, or_false, not_or] at hy
        simp only [if_neg hy.1, if_neg hy.2.1, if_neg hy.2.2.1, if_neg hy.2.2.2.1, if_neg hy.2.2.2.2]
    · have n32 : (({ cps := #[c] } : Str) == Str.ofString " ") = false := by
        rw [beq_eq_false_iff_ne]; intro e; exact h32 (one_inj (d := 32) e)
      have n9 : (({ cps := #[c] } : Str) == Str.ofString "\t") = false := by
        rw [beq_eq_false_iff_ne]; intro e; exact h9 (one_inj (d := 9) e)
      try dsimp only
      try k_fold
      k_steps
      clear em
      dsimp only [LoopEnd]
      try k_fold
      k_steps
      rename Fr g' _ _ _ => F7
      rename News g' _ _ _ => N7
      refine hret _ _ _ (fun b o' e => F7.keep b o' (hG b o' e)) ⟨o, rfl, ?_⟩
      rw [← wsRun_brk hcl h32 h9 hcs, ← hst]
      exact WsNew.make hG fo fdx N7 hI
  · intro m₁ nw h tk HH4 F9 N9
    refine hide ?_
    intro GG bk
    obtain ⟨D, cv, k, st, t1, t2, t3, rfl, hdo, hoD, hr, e1, e2, e3, e4, hI, hst, hcs, b1, b2, b3, b4⟩ := HH4
    refine bk ?_
    clear bk
    have hdo9 := ltN hdo
    have hoD9 := ltN hoD
    have em : m₁ = wsM (m₁ (Str.ofString "ch")) _ _ _ D _ := wsM_ext rfl e1 e2 e3 e4 hr
    rw [em] at F9
    clear em
    have hc2 := hok.2
    try dsimp only
    try k_fold
    k_steps
    rename Fr g' _ _ _ => F7
    rename News g' _ _ _ => N7
    refine hret _ _ _ (fun b o' e => F7.keep b o' (hG b o' e)) ⟨o, rfl, ?_⟩
    rw [← wsRun_done (n := x.cps.size) (by simp) hcs, ← hst]
    exact WsNew.make hG fo fdx N7 hI
end
end
section
open PySem PySem.W PyProof.Rows PySem.Spec PySem.Calls
section
theorem top_off_F10 : True := by
  w_top off
  k_with_none
  trivial
theorem lines_F10_1 : True := by
  (k_with "mine subscriptTail Name Constant ref int" => (k_here; (with_reducible show wpAny _ _ (subscriptTail _ _ (Value.ref _) (Value.int _ _)) _ _ _); (with_unfolding_all refine' item_base ?k1_h ?k2_h ?k3_h ?k4_h ?k5_h ?_ ?k6_h; (case k1_h => k_asm); (case k2_h => assumption); (case k3_h => decide); (case k4_h => decide); (case k5_h => first | exact at3_0 | exact at3_1 | exact at3_2); (case k6_h => with_unfolding_all rfl); k_whole)))
  (k_with "mine call builtin:min" => (k_here; (with_reducible show wpAny _ _ (call (Value.builtin _) [Value.ref _]) _ _ _); k_dflt (refine' minLK ?k1_h ?k2_h ?k3_h ?k4_h ?_; (case k1_h => k_asm); (case k2_h => k_asm); (case k3_h => exact rfl); (case k4_h => assumption); k_whole); intro y_q h_q tk_q F_q N_q; (try dsimp only); (try k_sweep)))
  (k_with "mine call builtin:max" => (k_here; (with_reducible show wpAny _ _ (call (Value.builtin _) [Value.ref _]) _ _ _); k_dflt (refine' maxLK ?k1_h ?k2_h ?k3_h ?k4_h ?_; (case k1_h => k_asm); (case k2_h => k_asm); (case k3_h => exact rfl); (case k4_h => assumption); k_whole); intro y_q h_q tk_q F_q N_q; (try dsimp only); (try k_sweep)))
  (k_with "mine eval ListComp" => (k_here; refine Halt.out ?_))
  (k_with "mine exec Assign cons ListComp" => (k_here; refine Halt.out ?_))
  (k_with "mine pyIter ref" => (k_here; refine Halt.out ?_))
  (k_with "mine compareOp NotEq ref ref" => (k_here; k_dflt (refine' ke_ne_ints ?k1_h ?k2_h ?k3_h ?k4_h ?k5_h ?_; (case k1_h => (first | exact Heap.IsList.at (by assumption) (fun o e => Fr.keep (by assumption) _ o e) | exact listOf_is (News.get (by assumption) (by k_mem)))); (case k2_h => (first | exact Heap.IsList.at (by assumption) (fun o e => Fr.keep (by assumption) _ o e) | exact listOf_is (News.get (by assumption) (by k_mem)))); (case k3_h => (first | exact ints3 | exact IntsAre.nil | assumption)); (case k4_h => (first | exact ints3 | exact IntsAre.nil | assumption)); (case k5_h => ktr_units); k_whole)))
  (k_with "mine compareOp Eq ref ref" => (k_here; k_dflt (refine' ke_eq_ints ?k1_h ?k2_h ?k3_h ?k4_h ?k5_h ?_; (case k1_h => (first | exact Heap.IsList.at (by assumption) (fun o e => Fr.keep (by assumption) _ o e) | exact listOf_is (News.get (by assumption) (by k_mem)))); (case k2_h => (first | exact Heap.IsList.at (by assumption) (fun o e => Fr.keep (by assumption) _ o e) | exact listOf_is (News.get (by assumption) (by k_mem)))); (case k3_h => (first | exact ints3 | exact IntsAre.nil | assumption)); (case k4_h => (first | exact ints3 | exact IntsAre.nil | assumption)); (case k5_h => ktr_units); k_whole)))
  trivial
local macro_rules | `(tactic| k_inst) => `(tactic| exact inst_base (by k_asm) (by assumption) (by assumption))
local macro_rules | `(tactic| kun_tup) => `(tactic| exact Fr.tup (by k_asm) (by assumption))
section
variable {prog : Program} {w : World} {A : Around} {E : Value → Shared → Prop} {s : Shared}
theorem len_tupI {t : Addr} {cv : List Value} {ns : List Int} {Q : Value → Shared → Prop} (ht : PyProof.Rows.IsTup s.heap t cv.toArray) (hi : IntsAre cv ns) (hn : ns.length ≤ 1000) (h : ∀ tk u, Q (.int ((ns.length : Nat) : Int) u) { s with toks := tk }) :
    wpAny (model prog w) A (call (.builtin "len") [.ref t]) Q E s := by
  refine PyProof.Rows.len_tuple ht (by rw [List.size_toArray, hi.length]; omega) ?_
  have := h (s.toks + 1 + 1) (s.toks + 1)
  rw [← hi.length] at this
  rw [List.size_toArray]
  exact this
end
theorem le_1000 {n k : Nat} (h : n ≤ k) (hk : k ≤ 1000) : n ≤ 1000 := Nat.le_trans h hk
theorem lines_F10_2 : True := by
  (k_with "mine call builtin:len" => (k_here; (with_reducible show wpAny _ _ (call (Value.builtin "len") [Value.ref _]) _ _ _); k_dflt (refine' len_tupI ?k1_h ?k2_h ?k3_h ?_; (case k1_h => kun_tup); (case k2_h => assumption); (case k3_h => exact le_1000 (by assumption) (by decide)); k_whole); intro tk_q u_q))
  trivial
def LrOut (st : WsSt) (r : Value) : Prop := ∃ t, r = .int (max (((st.cnt.length : Nat) : Int) - 1) ((st.b : Nat) : Int)) t
theorem longest_spec (w : World) (o : Addr) (st : WsSt) : SpecS w 1 20 (.ref 108) [.ref o] (fun h => WsAt w st h o ∧ st.cnt.length ≤ 100 ∧ st.b ≤ 1000) (fun _ r _ => LrOut st r) := by
  unfold SpecS
  intro p lz mean mg mb dp un gd cn cs a ccd cl outer A₀ base h₀ L m s Q E H hdp hu hok hret
  refine hide ?_
  intro GG bk
  obtain ⟨B, F, X, T, hk⟩ := H
  refine bk ?_
  clear bk
  ((refine wpAny_call ?_; k_dflt (refine' enterS ?k1 ?k2 ?k3 ?k5 ?kA ?kF ?kK ?k6 ?k7 ?k8 ?k9 ?kB ?_ ?c2 ?c3 ?c4 ?c5; (case kA => exact rfl); (case kF => exact rfl); (case kK => assumption); (case k1 => k_asm); (case k2 => k_asm); (case k3 => k_asm); (case k5 => k_asm); (case k6 => k_is); (case k7 => k_is); (case k8 => ktr_room); (case k9 => exact BindsTo.of_eq rfl); (case c5 => decide); (case kB => exact locs rfl); (case c2 => exact rfl); (case c3 => exact rfl); (case c4 => exact rfl); k_whole)))
  intro g' L' h' hG FG' F' N' B' X' T'
  refine hide ?_
  intro GG bk
  obtain ⟨⟨dx, nm, ct, cv, x, t, k1, k2, k3, k4, k5, t1, t2, t3, a1, a2, a3, a4, a5⟩, hl, hb⟩ := hok
  refine bk ?_
  clear bk
  have a1 := hG _ _ a1
  have a2 := hG _ _ a2
  have a3 := tup_is (hG _ _ a3)
  have a4 := tup_is (hG _ _ a4)
  try dsimp only
  try k_fold
  k_steps
  refine hret _ _ _ (fun b o e => Fr.keep (by assumption) b o (hG b o e)) ⟨_, congrArg (Value.int · _) ?_⟩
  split <;> omega
def IlOut (st : WsSt) (ts : Int) (r : Value) : Prop := ∃ t, r = .int (((st.b : Nat) : Int) + ts * (0 + ((st.nt : Nat) : Int))) t
theorem indent_spec (w : World) (o : Addr) (st : WsSt) (ts : Int) (u : Tok) : SpecS w 1 20 (.ref 115) [.ref o, .int ts u] (fun h => WsAt w st h o ∧ st.cnt.length ≤ 100 ∧ st.b ≤ 1000 ∧ st.nt ≤ 1000 ∧ ((st.cnt.length : Nat) : Int) ≤ ts ∧ ts ≤ 2000) (fun _ r _ => IlOut st ts r) := by
  unfold SpecS
  intro p lz mean mg mb dp un gd cn cs a ccd cl outer A₀ base h₀ L m s Q E H hdp hu hok hret
  refine hide ?_
  intro GG bk
  obtain ⟨B, F, X, T, hk⟩ := H
  refine bk ?_
  clear bk
  ((refine wpAny_call ?_; k_dflt (refine' enterS ?k1 ?k2 ?k3 ?k5 ?kA ?kF ?kK ?k6 ?k7 ?k8 ?k9 ?kB ?_ ?c2 ?c3 ?c4 ?c5; (case kA => exact rfl); (case kF => exact rfl); (case kK => assumption); (case k1 => k_asm); (case k2 => k_asm); (case k3 => k_asm); (case k5 => k_asm); (case k6 => k_is); (case k7 => k_is); (case k8 => ktr_room); (case k9 => exact BindsTo.of_eq rfl); (case c5 => decide); (case kB => exact locs rfl); (case c2 => exact rfl); (case c3 => exact rfl); (case c4 => exact rfl); k_whole)))
  intro g' L' h' hG FG' F' N' B' X' T'
  refine hide ?_
  intro GG bk
  obtain ⟨⟨dx, nm, ct, cv, x, t, k1, k2, k3, k4, k5, t1, t2, t3, a1, a2, a3, a4, a5⟩, hl, hb, hnt, hts, hts2⟩ := hok
  refine bk ?_
  clear bk
  have a1 := hG _ _ a1
  have a2 := hG _ _ a2
  have a3 := tup_is (hG _ _ a3)
  have a4 := tup_is (hG _ _ a4)
  try dsimp only
  try k_fold
  k_steps
  refine Halt.mk ?_
  rename Fr g' L' _ _ => F8
  rename News g' L' _ _ => N8
  rename IsRange _ _ _ _ _ _ _ _ => R8
  refine forRange (n := 0) rfl R8 (small_one (by omega) (by omega) (by omega) (by omega)) (by rw [rangeSize_nat]; omega) F8 N8 (fun _ m nw => m = _ ∧ nw = []) ⟨rfl, rfl⟩ ?_ ?_
  · intro i u m₁ nw h tk T hi; exact absurd hi (Nat.not_lt_zero _)
  rintro m₁ nw h tk ⟨rfl, rfl⟩ F9 N9
  try dsimp only
  try k_fold
  k_steps
  exact hret _ _ _ (fun b o e => Fr.keep (by assumption) b o (hG b o e)) ⟨_, rfl⟩
theorem reads_norm {h : Heap} {nm ct : Addr} {cv : List Value} {ns : List Int} {b : Int} {t : Tok} (h1 : h.IsTuple nm #[.ref ct, .int b t]) (h2 : h.IsTuple ct cv.toArray) (hi : IntsAre cv ns) : Reads h (.ref nm) (.tuple [.tuple (ns.map PyData.int), .int b]) [] := by
  obtain ⟨o1, a1, a2, k1, a3⟩ := h1
  obtain ⟨o2, b1, b2, k2, b3⟩ := h2
  exact PyProof.Rows.reads_tuple_at (as := [] ++ ([] ++ [])) a1 a2 a3 (.cons (PyProof.Rows.reads_tuple_at b1 b2 b3 (readsAll_of_ints hi)) (.cons (.int _ _) .nil))
theorem shaped_norm (ns : List Int) (b : Int) : PySem.SeqAt.shaped (.tuple [.tuple (ns.map PyData.int), .int b]) = true := by
  have h1 := PySem.W.depthAll_ints ns
  have h2 : PyData.depth (.tuple [.tuple (ns.map PyData.int), .int b]) ≤ 64 := by simp only [PyData.depth, PyData.depthAll]; omega
  show (PyData.canLay0 (.tuple [.tuple (ns.map PyData.int), .int b]) && decide (PyData.depth (.tuple [.tuple (ns.map PyData.int), .int b]) ≤ 64)) = true
  rw [Bool.and_eq_true]
  exact ⟨by simp [PyData.canLay0, PyData.canLayAll0, PySem.W.canLayAll0_ints ns], decide_eq_true h2⟩
theorem eqv_norm (ns ms : List Int) (b c : Int) : PyData.eqv (.tuple [.tuple (ns.map PyData.int), .int b]) (.tuple [.tuple (ms.map PyData.int), .int c]) = (decide (ns = ms) && decide (b = c)) := by
  simp only [PyData.eqv, PyData.eqvAll, ked_eqvAll, Bool.and_true]
  by_cases h : b = c <;> simp [h]
section
variable {prog : Program} {w : World} {A : Around} {E : Value → Shared → Prop} {s : Shared}
theorem eq_norm {a b ca cb : Addr} {va vb : List Value} {na nb : List Int} {x y : Int} {t u : Tok} {Q : Value → Shared → Prop} (a1 : s.heap.IsTuple a #[.ref ca, .int x t]) (a2 : s.heap.IsTuple ca va.toArray) (a3 : IntsAre va na)
    (b1 : s.heap.IsTuple b #[.ref cb, .int y u]) (b2 : s.heap.IsTuple cb vb.toArray) (b3 : IntsAre vb nb) (hu : A.units + 64 < cLine) (h : Q (.bool (decide (na = nb) && decide (x = y))) s) : wpAny (model prog w) A (compareOp .Eq (.ref a) (.ref b)) Q E s :=
  eq_dataH (reads_norm a1 a2 a3) (reads_norm b1 b2 b3) (shaped_norm _ _) (shaped_norm _ _) hu (by rw [eqv_norm]; exact h)
theorem ne_norm {a b ca cb : Addr} {va vb : List Value} {na nb : List Int} {x y : Int} {t u : Tok} {Q : Value → Shared → Prop} (a1 : s.heap.IsTuple a #[.ref ca, .int x t]) (a2 : s.heap.IsTuple ca va.toArray) (a3 : IntsAre va na)
    (b1 : s.heap.IsTuple b #[.ref cb, .int y u]) (b2 : s.heap.IsTuple cb vb.toArray) (b3 : IntsAre vb nb) (hu : A.units + 64 < cLine) (h : Q (.bool (!(decide (na = nb) && decide (x = y)))) s) : wpAny (model prog w) A (compareOp .NotEq (.ref a) (.ref b)) Q E s :=
  ne_dataH (reads_norm a1 a2 a3) (reads_norm b1 b2 b3) (shaped_norm _ _) (shaped_norm _ _) hu (by rw [eqv_norm]; exact h)
end
theorem lines_F10_3 : True := by
  (k_with "mine compareOp Eq ref ref" => (k_here; k_dflt (refine' eq_norm ?k1_h ?k2_h ?k3_h ?k4_h ?k5_h ?k6_h ?k7_h ?_; (case k1_h => kun_tup); (case k4_h => kun_tup); (case k2_h => kun_tup); (case k5_h => kun_tup); (case k3_h => assumption); (case k6_h => assumption); (case k7_h => ktr_units); k_whole)))
  trivial
theorem equal_spec (w : World) (o1 o2 : Addr) (st1 st2 : WsSt) : SpecS w 1 90 (.ref 122) [.ref o1, .ref o2] (fun h => WsAt w st1 h o1 ∧ WsAt w st2 h o2 ∧ st1.cnt.length ≤ 100 ∧ st1.cnt = st2.cnt) (fun _ r _ => r = .bool (decide (st1.b = st2.b))) := by
  unfold SpecS
  intro p lz mean mg mb dp un gd cn cs a ccd cl outer A₀ base h₀ L m s Q E H hdp hu hok hret
  refine hide ?_
  intro GG bk
  obtain ⟨B, F, X, T, hk⟩ := H
  refine bk ?_
  clear bk
  ((refine wpAny_call ?_; k_dflt (refine' enterS ?k1 ?k2 ?k3 ?k5 ?kA ?kF ?kK ?k6 ?k7 ?k8 ?k9 ?kB ?_ ?c2 ?c3 ?c4 ?c5; (case kA => exact rfl); (case kF => exact rfl); (case kK => assumption); (case k1 => k_asm); (case k2 => k_asm); (case k3 => k_asm); (case k5 => k_asm); (case k6 => k_is); (case k7 => k_is); (case k8 => ktr_room); (case k9 => exact BindsTo.of_eq rfl); (case c5 => decide); (case kB => exact locs rfl); (case c2 => exact rfl); (case c3 => exact rfl); (case c4 => exact rfl); k_whole)))
  intro g' L' h' hG FG' F' N' B' X' T'
  refine hide ?_
  intro GG bk
  obtain ⟨⟨dx, nm, ct, cv, x, t, k1, k2, k3, k4, k5, t1, t2, t3, a1, a2, a3, a4, a5⟩, ⟨dx', nm', ct', cv', x', t', k1', k2', k3', k4', k5', t1', t2', t3', a1', a2', a3', a4', a5'⟩, hl, hb⟩ := hok
  refine bk ?_
  clear bk
  have a1 := hG _ _ a1
  have a2 := hG _ _ a2
  have a3 := tup_is (hG _ _ a3)
  have a4 := tup_is (hG _ _ a4)
  have a1' := hG _ _ a1'
  have a2' := hG _ _ a2'
  have a3' := tup_is (hG _ _ a3')
  have a4' := tup_is (hG _ _ a4')
  try dsimp only
  try k_fold
  k_steps
  refine hret _ _ _ (fun b o e => Fr.keep (by assumption) b o (hG b o e)) (congrArg Value.bool ?_)
  rw [hb]
  simp only [decide_true, Bool.true_and, decide_eq_decide]
  exact Int.natCast_inj
theorem WsAt.fr {w : World} {st : WsSt} {g h : Heap} {L o : Addr} {m : Str → Option Value} (W : WsAt w st g o) (F : Fr g L h m) : WsAt w st h o := W.up F.keep
theorem lines_F10_4 : True := by
  (k_with "mine call ref" => (k_here; (try dsimp only [List.append_nil, List.cons_append, List.nil_append]); (with_reducible show wpAny _ _ (call (Value.ref 108) [Value.ref _]) _ _ _); k_dflt (refine' useS (longest_spec _ _ _) ?k1_h ?k2_h ?k3_h ?k4_h ?k5_h ?kK_h ?kd_h ?ku_h ?kp_h ?_; (((case k1_h => k_asm); (case k2_h => k_asm); (case k3_h => k_asm); (case k4_h => k_asm); (case k5_h => k_asm); (case kK_h => first | exact rfl | assumption); (case kd_h => ktr_room); (case ku_h => ktr_units))); (case kp_h => exact ⟨WsAt.fr (by assumption) (by assumption), by assumption, by assumption⟩); k_whole); intro r_q h_q tk_q F_q N_q up_q out_q; clear up_q; obtain ⟨t', e'⟩ := out_q; subst e'; (try dsimp only); (try k_sweep); (try k_fold)))
  (k_with "mine call ref" => (k_here; (try dsimp only [List.append_nil, List.cons_append, List.nil_append]); (with_reducible show wpAny _ _ (call (Value.ref 115) [Value.ref _, Value.int _ _]) _ _ _); k_dflt (refine' useS (indent_spec _ _ _ _ _) ?k1_h ?k2_h ?k3_h ?k4_h ?k5_h ?kK_h ?kd_h ?ku_h ?kp_h ?_; (((case k1_h => k_asm); (case k2_h => k_asm); (case k3_h => k_asm); (case k4_h => k_asm); (case k5_h => k_asm); (case kK_h => first | exact rfl | assumption); (case kd_h => ktr_room); (case ku_h => ktr_units))); (case kp_h => exact ⟨WsAt.fr (by assumption) (by assumption), by assumption, by assumption, by assumption, by omega, by omega⟩); k_whole); intro r_q h_q tk_q F_q N_q up_q out_q; clear up_q; obtain ⟨t', e'⟩ := out_q; subst e'; (try dsimp only); (try k_sweep); (try k_fold)))
  trivial
def Jts (m₀ : Str → Option Value) (_i : Nat) (m₁ : Str → Option Value) (nw : List (Addr × Obj)) : Prop := (∃ u, m₁ = fun y => if y = Str.ofString "ts" then u else m₀ y) ∧ nw = []
theorem same_upd (x : Str) (m₀ : Str → Option Value) : m₀ = fun y => if y = x then m₀ x else m₀ y := by
  funext y
  split
  · rename_i e; rw [e]
  · rfl
theorem Jts.zero (m₀ : Str → Option Value) : Jts m₀ 0 m₀ [] := ⟨⟨_, same_upd _ _⟩, rfl⟩
theorem less_no {k a b n m : Nat} (h1 : n = k + a) (h2 : m = k + b) (h : ((m : Nat) : Int) ≤ ((n : Nat) : Int)) : ¬ a < b := by omega
theorem less_yes {k a b n m : Nat} (h1 : n = k + a) (h2 : m = k + b) (h : ¬ ((m : Nat) : Int) ≤ ((n : Nat) : Int)) : a < b := by omega
theorem less_iff {k a b n m t u : Nat} (h1 : n = k + a) (h2 : m = k + b) (ht : t = 1) (hu : u = 1) (h : ¬ ((m : Nat) : Int) ≤ ((n : Nat) : Int)) : ((t : Nat) : Int) ≤ ((u : Nat) : Int) ↔ a < b := by omega
theorem less_spec (w : World) (o1 o2 : Addr) (st1 st2 : WsSt) (kk : Nat) : SpecS w 2 60 (.ref 136) [.ref o1, .ref o2] (fun h => WsAt w st1 h o1 ∧ WsAt w st2 h o2 ∧ st1.cnt.length ≤ 2 ∧ st2.cnt.length ≤ 2 ∧ st1.b ≤ 100 ∧ st2.b ≤ 100 ∧ st1.nt = 1 ∧ st2.nt = 1 ∧ st1.n = kk + st1.b ∧ st2.n = kk + st2.b ∧ kk ≤ 100) (fun _ r _ => r = .bool (decide (st1.b < st2.b))) := by
  unfold SpecS
  intro p lz mean mg mb dp un gd cn cs a ccd cl outer A₀ base h₀ L m s Q E H hdp hu hok hret
  refine hide ?_
  intro GG bk
  obtain ⟨B, F, X, T, hk⟩ := H
  refine bk ?_
  clear bk
  ((refine wpAny_call ?_; k_dflt (refine' enterS ?k1 ?k2 ?k3 ?k5 ?kA ?kF ?kK ?k6 ?k7 ?k8 ?k9 ?kB ?_ ?c2 ?c3 ?c4 ?c5; (case kA => exact rfl); (case kF => exact rfl); (case kK => assumption); (case k1 => k_asm); (case k2 => k_asm); (case k3 => k_asm); (case k5 => k_asm); (case k6 => k_is); (case k7 => k_is); (case k8 => ktr_room); (case k9 => exact BindsTo.of_eq rfl); (case c5 => decide); (case kB => exact locs rfl); (case c2 => exact rfl); (case c3 => exact rfl); (case c4 => exact rfl); k_whole)))
  intro g' L' h' hG FG' F' N' B' X' T'
  refine hide ?_
  intro GG bk
  obtain ⟨W1, W2, hl1, hl2, hb1, hb2, ht1, ht2, hn1, hn2, hkk⟩ := hok
  refine bk ?_
  clear bk
  have W1 := W1.up hG
  have W2 := W2.up hG
  have W1' := W1
  have W2' := W2
  have hl1' : st1.cnt.length ≤ 100 := Nat.le_trans hl1 (by decide)
  have hl2' : st2.cnt.length ≤ 100 := Nat.le_trans hl2 (by decide)
  have hb1' : st1.b ≤ 1000 := Nat.le_trans hb1 (by decide)
  have hb2' : st2.b ≤ 1000 := Nat.le_trans hb2 (by decide)
  have ht1' : st1.nt ≤ 1000 := by rw [ht1]; decide
  have ht2' : st2.nt ≤ 1000 := by rw [ht2]; decide
  refine hide ?_
  intro GG bk
  obtain ⟨dx, nm, ct, cv, x, t, k1, k2, k3, k4, k5, t1, t2, t3, a1, a2, a3, a4, a5⟩ := W1
  obtain ⟨dx', nm', ct', cv', x', t', k1', k2', k3', k4', k5', t1', t2', t3', a1', a2', a3', a4', a5'⟩ := W2
  refine bk ?_
  clear bk
  have a3 := tup_is a3
  have a4 := tup_is a4
  have a3' := tup_is a3'
  have a4' := tup_is a4'
  try dsimp only
  try k_fold
  k_steps
  · refine hret _ _ _ (fun b o e => Fr.keep (by assumption) b o (hG b o e)) (congrArg Value.bool ?_)
    rename ((st2.n : Nat) : Int) ≤ ((st1.n : Nat) : Int) => hle
    exact (decide_eq_false (less_no hn1 hn2 hle)).symm
  · refine hret _ _ _ (fun b o e => Fr.keep (by assumption) b o (hG b o e)) (congrArg Value.bool ?_)
    rename ¬ ((st2.n : Nat) : Int) ≤ ((st1.n : Nat) : Int) => hle
    rw [decide_eq_decide]
    exact less_iff hn1 hn2 ht1 ht2 hle
  all_goals (
    refine Halt.mk ?_
    rename Fr g' L' _ _ => F8
    rename News g' L' _ _ => N8
    rename IsRange _ _ _ _ _ _ _ _ => R8
    rename ¬ ((st2.n : Nat) : Int) ≤ ((st1.n : Nat) : Int) => hle
    refine forRange (n := _) rfl R8 (small_one (by omega) (by omega) (by omega) (by omega)) (rangeSize_nat _ _) F8 N8 (Jts _) (Jts.zero _) ?_ ?_
    · intro i u8 m₁ nw h tk T8 hi HH8 F9 N9 ap
      refine hide ?_
      intro GG bk
      obtain ⟨⟨u, rfl⟩, rfl⟩ := HH8
      refine bk ?_
      clear bk
      have hi' : i ≤ 1000 := by omega
      clear hi
      rw [List.nil_append] at N9
      try dsimp only
      try k_fold
      k_steps
      · rename ((st2.b : Nat) : Int) + _ ≤ _ => hle2
        rw [ht1, ht2] at hle2
        exfalso
        omega
      · rename Fr g' _ _ _ => F7
        rename News g' _ _ _ => N7
        refine LoopEnd.intro (nw' := []) F7 N7 ap ⟨⟨some (.int (2 + (i : Int)) u8), ?_⟩, rfl⟩
        exact upd_upd
    · intro m₁ nw h tk HH4 F9 N9
      refine hide ?_
      intro GG bk
      obtain ⟨⟨u, rfl⟩, rfl⟩ := HH4
      refine bk ?_
      clear bk
      try dsimp only
      try k_fold
      k_steps
      refine hret _ _ _ (fun b o e => Fr.keep (by assumption) b o (hG b o e)) (congrArg Value.bool ?_)
      exact (decide_eq_true (less_yes hn1 hn2 hle)).symm)
end
end
section
open PySem PySem.W PyProof.Rows PySem.Spec PySem.Calls
section
/-- all but what stands at S is kept -/
def UpBut (S : List Addr) (h h' : Heap) : Prop := ∀ b o, b ∉ S → h.get? b = some o → h'.get? b = some o
/-- a contract of a call that may change what stands at S, which the caller's ground does not hold -/
def SpecM (S : List Addr) (w : World) (d u : Nat) (f : Value) (vs : List Value) (Pre : Heap → Prop) (Out : Heap → Value → Heap → Prop) : Prop :=
  ∀ (p : Program) (lz : List Str) (mean : ExcName → Option Value) (mg mb : Str → Option Value) (dp un : Nat) (gd : Option (List Code)) (cn : Str) (cs : Scope) (a : Addr) (ccd : Value) (cl : List (Str × Addr)) (outer : List Env) (A₀ : Around) (base h₀ : Heap) (L : Addr)
    (m : Str → Option Value) (s : Shared) (Q E : Value → Shared → Prop),
    Here w p lz mean mg mb outer A₀ base h₀ L m cs s.heap → (∀ b ∈ S, h₀.get? b = none ∧ b ≠ L) → dp + d < recursionLimit → un + u < cLine → Pre s.heap →
    (∀ r h' tk', UpBut S s.heap h' → Out s.heap r h' → Q r { s with heap := h', toks := tk' }) →
    wpAny (model P0 w) (ktrTop dp un gd cn cs L a ccd cl outer) (call f vs) Q E s

section
variable {w : World} {d u : Nat} {f : Value} {vs : List Value} {Pre : Heap → Prop} {Out : Heap → Value → Heap → Prop} {p : Program} {lz : List Str} {mean : ExcName → Option Value} {mg mb : Str → Option Value} {dp un : Nat} {gd : Option (List Code)} {cn : Str} {cs : Scope} {a : Addr} {ccd : Value} {cl : List (Str × Addr)} {outer : List Env} {A₀ : Around} {base h₀ : Heap} {L : Addr}
    {m : Str → Option Value} {s : Shared} {Q E : Value → Shared → Prop} {news : List (Addr × Obj)} {S : List Addr}
theorem Fr.upBut {h h' : Heap} (F : Fr h₀ L h m) (hS : ∀ b ∈ S, h₀.get? b = none ∧ b ≠ L) (up : UpBut S h h') : Fr h₀ L h' m :=
  ⟨F.ns.at' fun o e => up _ o (fun hb => (hS _ hb).2 rfl) e, fun b o e => up b o (fun hb => by rw [(hS _ hb).1] at e; cases e) (F.keep b o e), F.above⟩
theorem News.upBut {h h' : Heap} (N : News h₀ L h news) (hN : ∀ q ∈ news, q.1 ∉ S) (up : UpBut S h h') : News h₀ L h' news :=
  fun q hq => ⟨up _ _ (hN q hq) (N q hq).1, (N q hq).2⟩
theorem useM (C : SpecM S w d u f vs Pre Out) (B : Below A₀ base outer h₀) (F : Fr h₀ L s.heap m) (X : (hd.heap_1 w.params).In h₀) (N : News h₀ L s.heap news) (hN : ∀ q ∈ news, q.1 ∉ S) (T : Top p lz mean mg mb h₀) (hk : cs.kind = .function)
    (hd : dp + d < recursionLimit) (hu : un + u < cLine) (hS : ∀ b ∈ S, h₀.get? b = none ∧ b ≠ L) (pre : Pre s.heap)
    (ret : ∀ r h' tk', Fr h₀ L h' m → News h₀ L h' news → UpBut S s.heap h' → Out s.heap r h' → Q r { s with heap := h', toks := tk' }) :
    wpAny (model P0 w) (ktrTop dp un gd cn cs L a ccd cl outer) (call f vs) Q E s :=
  C p lz mean mg mb dp un gd cn cs a ccd cl outer A₀ base h₀ L m s Q E ⟨B, F, X, T, hk⟩ hS hd hu pre fun r h' tk' up out => ret r h' tk' (Fr.upBut F hS up) (News.upBut N hN up) up out
end

/-- what is known of a table of nested code -/
inductive TabLed (P : Addr) (line col : Int) (qual : Str) : List (Addr × Obj) → Prop
  | none : TabLed P line col qual [(P, tabObj #[])]
  | some {c' : Addr} {oc : Obj} {vs : Array Value} {t : Tok} : oc.data = .fields vs → vs[1]? = some (.str qual t) → TabLed P line col qual [(P, tabObj #[rawInt line, rawInt col, .ref c']), (c', oc)]
theorem TabLed.off {P : Addr} {line col : Int} {qual : Str} {l : List (Addr × Obj)} (T : TabLed P line col qual l) : ∀ q ∈ l, ∃ vs, q.2.data = .fields vs := by
  cases T with
  | none => intro q hq; rw [List.mem_singleton.mp hq]; exact ⟨_, rfl⟩
  | some h1 h2 =>
    intro q hq
    rcases List.mem_cons.mp hq with rfl | hq
    · exact ⟨_, rfl⟩
    · rw [List.mem_singleton.mp hq]; exact ⟨_, h1⟩
def qual1 : Str := Str.ofString "_int2digits.<locals>.inner"
def qual2 : Str := Str.ofString "_digits2int.<locals>.inner"
/-- what is known of both tables -/
def TabLeds (TL : List (Addr × Obj)) : Prop := ∃ l1 l2, TL = l1 ++ l2 ∧ TabLed 37 35 4 qual1 l1 ∧ TabLed 44 50 4 qual2 l2
theorem TabLeds.off {TL : List (Addr × Obj)} (T : TabLeds TL) : ∀ q ∈ TL, ∃ vs, q.2.data = .fields vs := by
  obtain ⟨l1, l2, rfl, h1, h2⟩ := T
  intro q hq
  rcases List.mem_append.mp hq with hq | hq
  · exact h1.off q hq
  · exact h2.off q hq
/-- what is new in the one ledger was not there -/
def Grew (h : Heap) (TL TL' : List (Addr × Obj)) : Prop := ∀ q ∈ TL', (∃ o, (q.1, o) ∈ TL) ∨ h.get? q.1 = none
theorem Grew.refl (h : Heap) (TL : List (Addr × Obj)) : Grew h TL TL := fun q hq => .inl ⟨q.2, hq⟩
/-- what stood in the one ledger stands in the other, grown -/
def Kept (TL TL' : List (Addr × Obj)) : Prop := ∀ q ∈ TL, ∃ o, (q.1, o) ∈ TL'
theorem Kept.trans {a b c : List (Addr × Obj)} (h : Kept a b) (h' : Kept b c) : Kept a c := fun q hq => by
  obtain ⟨o, ho⟩ := h q hq
  exact h' (q.1, o) ho
/-- what is not of the ledger is kept -/
def UpOff (TL : List (Addr × Obj)) (h h' : Heap) : Prop := ∀ b o, (∀ q ∈ TL, q.1 ≠ b) → h.get? b = some o → h'.get? b = some o
/-- a contract of a call that may fill the tables -/
def SpecT (w : World) (d u : Nat) (f : Value) (vs : List Value) (Pre : Heap → Prop) (Out : Heap → Value → Heap → Prop) : Prop :=
  ∀ (p : Program) (lz : List Str) (mean : ExcName → Option Value) (mg mb : Str → Option Value) (dp un : Nat) (gd : Option (List Code)) (cn : Str) (cs : Scope) (a : Addr) (ccd : Value) (cl : List (Str × Addr)) (outer : List Env) (A₀ : Around) (base h₀ : Heap) (L : Addr)
    (m : Str → Option Value) (s : Shared) (Q E : Value → Shared → Prop) (TL : List (Addr × Obj)),
    Here w p lz mean mg mb outer A₀ base h₀ L m cs s.heap → TabLeds TL → News h₀ L s.heap TL → dp + d < recursionLimit → un + u < cLine → Pre s.heap →
    (∀ r h' tk' TL', TabLeds TL' → News h₀ L h' TL' → Grew s.heap TL TL' → Kept TL TL' → UpOff TL s.heap h' → Out s.heap r h' → Q r { s with heap := h', toks := tk' }) →
    wpAny (model P0 w) (ktrTop dp un gd cn cs L a ccd cl outer) (call f vs) Q E s

section
variable {w : World} {d u : Nat} {f : Value} {vs : List Value} {Pre : Heap → Prop} {Out : Heap → Value → Heap → Prop} {p : Program} {lz : List Str} {mean : ExcName → Option Value} {mg mb : Str → Option Value} {dp un : Nat} {gd : Option (List Code)} {cn : Str} {cs : Scope} {a : Addr} {ccd : Value} {cl : List (Str × Addr)} {outer : List Env} {A₀ : Around} {base h₀ : Heap} {L : Addr}
    {m : Str → Option Value} {s : Shared} {Q E : Value → Shared → Prop} {news TL : List (Addr × Obj)}
theorem UpOff.ground {h h' : Heap} (up : UpOff TL h h') (F : Fr h₀ L h m) (N : News h₀ L h TL) : Fr h₀ L h' m :=
  ⟨F.ns.at' fun o e => up _ o (fun q hq => (N q hq).2.1) e, fun b o e => up b o (fun q hq => fun eq => by have := (N q hq).2.2; rw [eq, e] at this; cases this) (F.keep b o e), F.above⟩
theorem useT (C : SpecT w d u f vs Pre Out) (B : Below A₀ base outer h₀) (F : Fr h₀ L s.heap m) (X : (hd.heap_1 w.params).In h₀) (T : Top p lz mean mg mb h₀) (hk : cs.kind = .function) (hT : TabLeds TL) (N : News h₀ L s.heap (news ++ TL)) (ap : Apart news TL)
    (hd : dp + d < recursionLimit) (hu : un + u < cLine) (pre : Pre s.heap)
    (ret : ∀ r h' tk' TL', TabLeds TL' → Fr h₀ L h' m → News h₀ L h' (news ++ TL') → Apart news TL' → Kept TL TL' → UpOff TL s.heap h' → Out s.heap r h' → Q r { s with heap := h', toks := tk' }) :
    wpAny (model P0 w) (ktrTop dp un gd cn cs L a ccd cl outer) (call f vs) Q E s := by
  have NT : News h₀ L s.heap TL := fun q hq => N q (List.mem_append_right _ hq)
  refine C p lz mean mg mb dp un gd cn cs a ccd cl outer A₀ base h₀ L m s Q E TL ⟨B, F, X, T, hk⟩ hT NT hd hu pre fun r h' tk' TL' hT' N' gr kp up out => ret r h' tk' TL' hT' (up.ground F NT) (fun q hq => ?_) (fun q hq r hr => ?_) kp up out
  · rcases List.mem_append.mp hq with hq' | hq'
    · exact ⟨up _ _ (fun r hr => (ap q hq' r hr).symm) (N q (List.mem_append_left _ hq')).1, (N q (List.mem_append_left _ hq')).2⟩
    · exact N' q hq'
  · rcases gr r hr with ⟨o, ho⟩ | hn
    · exact ap q hq (r.1, o) ho
    · intro e
      have := (N q (List.mem_append_left _ hq)).1
      rw [e, hn] at this; cases this
end
/-- a callee's ledger is the caller's -/
theorem News.down {h₀ g h' : Heap} {L L' : Addr} {m : Str → Option Value} {TL : List (Addr × Obj)} (FG : Fr h₀ L g m) (N : News g L' h' TL) : News h₀ L h' TL := fun q hq => by
  refine ⟨(N q hq).1, fun e => ?_, ?_⟩
  · obtain ⟨oL, _, _, hL, _⟩ := FG.ns
    have := (N q hq).2.2
    rw [e, hL] at this; cases this
  · cases e : h₀.get? q.1 with
    | none => rfl
    | some o => have := (N q hq).2.2; rw [FG.keep _ _ e] at this; cases this

section
variable {prog : Program} {w : World} {A₀ A : Around} {s : Shared} {base h₀ : Heap} {outer : List Env} {L : Addr} {m : Str → Option Value} {env : Env} {news : List (Addr × Obj)} {K : Frag}
  {p : Program} {loose : List Str} {mean : ExcName → Option Value} {mg mb : Str → Option Value}
  {R : Result → Shared → Prop} {name qual : Str} {params : Arguments} {body : List Stmt} {scope : Scope} {dV kV doc pm cdv ct : Value} {an : Option Addr} {fo : Obj} {f : Addr} {args : Args} {binds : List (Str × Value)} {cl : List (Str × Addr)}
/-- a def that closes over cells is entered; the caller's whole heap but the ledger is the ground -/
theorem enterX (B : Below A₀ base outer h₀) (F : Fr h₀ L s.heap m) (X₀ : K.In h₀) (N : News h₀ L s.heap news) (T : Top p loose mean mg mb h₀) (hA : A.frames = some (env :: outer)) (hf : env.frame = some L) (hke : env.scope.kind = .function)
    (ho : s.heap.get? f = some fo) (hd : fo.data = .func (fnX name qual params body scope cl dV kV doc pm an cdv ct)) (hcd : s.heap.CodeRec cdv qual) (hroom : A.depth < recursionLimit)
    (hbind : BindsTo s (fnX name qual params body scope cl dV kV doc pm an cdv ct) args binds) (hloc : ∀ y ∈ binds, scope.names.lookup y.1 = some .local)
    (h : ∀ g L' h₁, (∀ b o, s.heap.get? b = some o → b ∉ news.map (·.1) → g.get? b = some o) → Fr h₀ L g m → Fr g L' h₁ (fun y => binds.reverse.lookup y) → News g L' h₁ news → Below A base (env :: outer) g → K.In g → Top p loose mean mg mb g →
      (∀ p ∈ news, p.1 < L') →
      wpAny (model prog w) (A.deeper (envX qual scope L' f cdv cl)) (execs body (envX qual scope L' f cdv cl))
        (fun fl s' => LeaveK h₀ L m g R (match fl with | .ret v => v | _ => .none) s')
        (fun e s' => wpAny (model prog w) (A.deeper (envX qual scope L' f cdv cl)) (leaving (envX qual scope L' f cdv cl) e) (fun _ s'' => R (.error e) s'') (fun e' s'' => R (.error e') s'') s')
        { s with heap := h₁, toks := s.toks + binds.length })
    (hco : scope.isCoroutine = false) (hgen : scope.isGenerator = false) (hk : scope.kind = .function)
    (hcell : ∀ x ∈ scope.names, x.2 ≠ .cell) : codeAny (model prog w) A (.call (.ref f) args) R s := by
  obtain ⟨FG, BG, st, lv⟩ := groundX (R := R) B F N hA hf hke
  refine codeAny_call_def (fd := fnX name qual params body scope cl dV kV doc pm an cdv ct) (body := body) (binds := binds) hroom ho hd (T.nolimit.keeps F.keep) hcd rfl hbind hcell hloc (fun h₁ hns hk₁ => ?_) hco hgen hk
  refine wpAny_mono (h _ s.heap.objs.size h₁ (fun b o e n => hideAll_get _ e n) FG ⟨hns, fun b o e => hk₁ b o (of_hideAll _ e), Nat.le_of_eq (hideAll_size _ _)⟩
    (fun p hp => ⟨hk₁ _ _ (N p hp).1, Nat.ne_of_lt (Heap.lt_size (N p hp).1), hideAll_none _ (List.mem_map_of_mem hp)⟩) BG (X₀.keeps st) (T.keeps st) (fun p hp => Heap.lt_size (N p hp).1)) (fun fl s' hl => lv _ _ hl) fun _ _ y => y
end
section
variable {M : Model} {A : Around} {E : Value → Shared → Prop} {s : Shared} {h₀ : Heap} {L a : Addr} {m : Str → Option Value} {cn : Str} {cs : Scope} {ccd : Value} {cl : List (Str × Addr)} {x : Str} {pos : Pos} {v : Value} {Q : Value → Shared → Prop} {c : Addr} {o : Obj}
/-- a captured name whose cell is of the ground -/
theorem nameX_FG (F : Fr h₀ L s.heap m) (hc : cl.lookup x = some c) (hg : h₀.get? c = some o) (hd : o.data = .cell (some v)) (h : Q v s)
    (hk : cs.kind = .function := by rfl) (hx : (envX cn cs L a ccd cl).kindOf x = some .free := by rfl) (hb : (x == ("__debug__" : Str)) = false := by decide) (hn : (x == ("__classdict__" : Str)) = false := by decide) :
    wpAny M A (eval (.Name x pos) (envX cn cs L a ccd cl)) Q E s := wpAny_Name (wpAny_loadName_free hk hx hc ⟨o, F.keep _ _ hg, hd⟩ h hn) hb
end
end
end
section
open PySem PySem.W PyProof.Rows PySem.Spec PySem.Calls
section
theorem lines_F11_1 : True := by
  (k_with "mine subscriptTail Name Constant ref int" => (k_here; (with_reducible show wpAny _ _ (subscriptTail _ _ (Value.ref _) (Value.int _ _)) _ _ _); (with_unfolding_all refine' item_base ?k1_h ?k2_h ?k3_h ?k4_h ?k5_h ?_ ?k6_h; (case k1_h => k_asm); (case k2_h => assumption); (case k3_h => decide); (case k4_h => decide); (case k5_h => first | exact at3_0 | exact at3_1 | exact at3_2); (case k6_h => with_unfolding_all rfl); k_whole)))
  (k_with "mine call builtin:min" => (k_here; (with_reducible show wpAny _ _ (call (Value.builtin _) [Value.ref _]) _ _ _); k_dflt (refine' minLK ?k1_h ?k2_h ?k3_h ?k4_h ?_; (case k1_h => k_asm); (case k2_h => k_asm); (case k3_h => exact rfl); (case k4_h => assumption); k_whole); intro y_q h_q tk_q F_q N_q; (try dsimp only); (try k_sweep)))
  (k_with "mine call builtin:max" => (k_here; (with_reducible show wpAny _ _ (call (Value.builtin _) [Value.ref _]) _ _ _); k_dflt (refine' maxLK ?k1_h ?k2_h ?k3_h ?k4_h ?_; (case k1_h => k_asm); (case k2_h => k_asm); (case k3_h => exact rfl); (case k4_h => assumption); k_whole); intro y_q h_q tk_q F_q N_q; (try dsimp only); (try k_sweep)))
  (k_with "mine eval ListComp" => (k_here; refine Halt.out ?_))
  (k_with "mine exec Assign cons ListComp" => (k_here; refine Halt.out ?_))
  (k_with "mine pyIter ref" => (k_here; refine Halt.out ?_))
  (k_with "mine compareOp NotEq ref ref" => (k_here; k_dflt (refine' ke_ne_ints ?k1_h ?k2_h ?k3_h ?k4_h ?k5_h ?_; (case k1_h => (first | exact Heap.IsList.at (by assumption) (fun o e => Fr.keep (by assumption) _ o e) | exact listOf_is (News.get (by assumption) (by k_mem)))); (case k2_h => (first | exact Heap.IsList.at (by assumption) (fun o e => Fr.keep (by assumption) _ o e) | exact listOf_is (News.get (by assumption) (by k_mem)))); (case k3_h => (first | exact ints3 | exact IntsAre.nil | assumption)); (case k4_h => (first | exact ints3 | exact IntsAre.nil | assumption)); (case k5_h => ktr_units); k_whole)))
  (k_with "mine compareOp Eq ref ref" => (k_here; k_dflt (refine' ke_eq_ints ?k1_h ?k2_h ?k3_h ?k4_h ?k5_h ?_; (case k1_h => (first | exact Heap.IsList.at (by assumption) (fun o e => Fr.keep (by assumption) _ o e) | exact listOf_is (News.get (by assumption) (by k_mem)))); (case k2_h => (first | exact Heap.IsList.at (by assumption) (fun o e => Fr.keep (by assumption) _ o e) | exact listOf_is (News.get (by assumption) (by k_mem)))); (case k3_h => (first | exact ints3 | exact IntsAre.nil | assumption)); (case k4_h => (first | exact ints3 | exact IntsAre.nil | assumption)); (case k5_h => ktr_units); k_whole)))
  trivial
theorem codeHd1 {K : Frag} {h : Heap} {c P : Addr} {o : Obj} {vs : Array Value} (X : K.In h) (hl : K.lookup c = some o) (h1 : o.cls = .type "code") (h2 : o.data = .fields vs) (h3 : vs[11]? = some (.ref P)) (h4 : vs.getD 11 .none = .ref P) {file : Str} {tf tg tt : Tok} {flags text : Int} {inF : Bool}
    (h5 : vs.getD 18 .none = .str file tf) (h6 : vs.getD 7 .none = .int flags tg) (h7 : vs.getD 9 .none = .bool inF) (h8 : vs.getD 10 .none = .int text tt) (h9 : c ≠ P) : CodeHd h c P :=
  ⟨o, vs, file, tf, flags, tg, inF, text, tt, X _ _ hl, h1, h2, h3, h4, h5, h6, h7, h8, h9⟩
theorem head1 {w : World} {h : Heap} (X : (hd.heap_1 w.params).In h) : CodeHd h 41 37 := codeHd1 X (by k_is) rfl rfl rfl rfl rfl rfl rfl rfl (by decide)
theorem head2 {w : World} {h : Heap} (X : (hd.heap_1 w.params).In h) : CodeHd h 48 44 := codeHd1 X (by k_is) rfl rfl rfl rfl rfl rfl rfl rfl (by decide)
end
end
section
open PySem PySem.W PyProof.Rows PySem.Spec PySem.Calls
section
theorem nat_and_high (x s : Nat) : x &&& (x / 2 ^ s * 2 ^ s) = x / 2 ^ s * 2 ^ s := by
  rw [← Nat.shiftRight_eq_div_pow, ← Nat.shiftLeft_eq]
  apply Nat.eq_of_testBit_eq
  intro i
  rw [Nat.testBit_and, Nat.testBit_shiftLeft, Nat.testBit_shiftRight]
  by_cases h : s ≤ i
  · have : s + (i - s) = i := by omega
    rw [this]
    cases x.testBit i <;> simp [h]
  · simp [h]
theorem xor_high (x s : Nat) : Builtin.bitXor ((x : Nat) : Int) ((x / 2 ^ s * 2 ^ s : Nat) : Int) = ((x % 2 ^ s : Nat) : Int) := by
  rw [bitXor_and]
  have e : Builtin.bitAnd ((x : Nat) : Int) ((x / 2 ^ s * 2 ^ s : Nat) : Int) = ((x / 2 ^ s * 2 ^ s : Nat) : Int) := by
    unfold Builtin.bitAnd
    have h1 : decide ((0 : Int) ≤ ((x : Nat) : Int)) = true := decide_eq_true (Int.natCast_nonneg _)
    have h2 : decide ((0 : Int) ≤ ((x / 2 ^ s * 2 ^ s : Nat) : Int)) = true := decide_eq_true (Int.natCast_nonneg _)
    rw [h1, h2]
    simp only [Int.toNat_natCast]
    rw [nat_and_high]
  rw [e]
  have h := Nat.div_add_mod x (2 ^ s)
  rw [Nat.mul_comm] at h
  omega
theorem fdiv_pow_nat (x s : Nat) : Int.fdiv ((x : Nat) : Int) (2 ^ s) = ((x / 2 ^ s : Nat) : Int) := by
  rw [Int.fdiv_eq_ediv_of_nonneg _ (Int.le_of_lt (Int.pow_pos (by decide)))]
  have : (2 : Int) ^ s = ((2 ^ s : Nat) : Int) := by simp
  rw [this, ← Int.natCast_ediv]
section
variable {prog : Program} {w : World} {A : Around} {E : Value → Shared → Prop} {s : Shared} {t u : Tok} {Q : Value → Shared → Prop}
theorem n_mid {a b : Nat} (h : ∀ t' tk, Q (.int (((a + b) / 2 : Nat) : Int) t') { s with toks := tk }) : wpAny (model prog w) A (binaryOp .RShift (.int ((a : Int) + (b : Int)) t) (.int 1 u)) Q E s := by
  refine rshift_int (by decide) ?_
  have e : Int.fdiv ((a : Int) + (b : Int)) (2 ^ Int.toNat 1) = (((a + b) / 2 : Nat) : Int) := by
    have := fdiv_pow_nat (a + b) 1
    rw [← Int.natCast_add]
    exact this
  rw [e]
  exact h _ _
theorem n_shr {x k : Nat} (h : ∀ t' tk, Q (.int ((x / 2 ^ k : Nat) : Int) t') { s with toks := tk }) : wpAny (model prog w) A (binaryOp .RShift (.int ((x : Nat) : Int) t) (.int ((k : Nat) : Int) u)) Q E s := by
  refine rshift_int (Int.natCast_nonneg _) ?_
  rw [Int.toNat_natCast, fdiv_pow_nat]
  exact h _ _
theorem n_shl {x k B : Nat} (hx : x < 2 ^ B) (hB : B + k ≤ 2 ^ 27) (h : ∀ t' tk, Q (.int ((x * 2 ^ k : Nat) : Int) t') { s with toks := tk }) : wpAny (model prog w) A (binaryOp .LShift (.int ((x : Nat) : Int) t) (.int ((k : Nat) : Int) u)) Q E s := by
  have hb : Builtin.Int.intBits ((x : Nat) : Int) ≤ B := PySem.intBits_le_iff.mpr (by simpa using hx)
  refine lshift_int (Int.natCast_nonneg _) (by omega) ?_
  have e : ((x : Nat) : Int) * 2 ^ (((k : Nat) : Int)).toNat = ((x * 2 ^ k : Nat) : Int) := by
    rw [Int.toNat_natCast, Int.natCast_mul]
    simp
  rw [e]
  exact h _ _
theorem n_subMul {a b n : Nat} (hab : b ≤ a) (hs : a - b ≤ 1000) (h : ∀ t' tk, Q (.int (((a - b) * n : Nat) : Int) t') { s with toks := tk }) : wpAny (model prog w) A (binaryOp .Mult (.int ((a : Int) - (b : Int)) t) (.int ((n : Nat) : Int) u)) Q E s := by
  have e0 : (a : Int) - (b : Int) = ((a - b : Nat) : Int) := by omega
  rw [e0]
  refine mul_int ?_ (IntMulOk.of_left (PySem.intBits_cast_le (Nat.le_trans hs (by decide))))
  rw [← Int.natCast_mul]
  exact h _ _
theorem n_xor {x k : Nat} (h : ∀ t' tk, Q (.int ((x % 2 ^ k : Nat) : Int) t') { s with toks := tk }) : wpAny (model prog w) A (binaryOp .BitXor (.int ((x : Nat) : Int) t) (.int ((x / 2 ^ k * 2 ^ k : Nat) : Int) u)) Q E s := by
  refine xor_int ?_
  rw [xor_high]
  exact h _ _
end
end
end
section
section
/-- the m lowest parts of x, of N bits each -/
def digs (N : Nat) : Nat → Nat → List Int
  | 0, _ => []
  | m + 1, x => ((x % 2 ^ N : Nat) : Int) :: digs N m (x / 2 ^ N)
theorem digs_length (N : Nat) : ∀ m x, (digs N m x).length = m
  | 0, _ => rfl
  | m + 1, x => by rw [digs, List.length_cons, digs_length N m]
theorem digs_append (N : Nat) : ∀ a b x, digs N (a + b) x = digs N a (x % 2 ^ (N * a)) ++ digs N b (x / 2 ^ (N * a))
  | 0, b, x => by simp [digs]
  | a + 1, b, x => by
    have e : a + 1 + b = (a + b) + 1 := by omega
    have h1 : x % 2 ^ (N * (a + 1)) % 2 ^ N = x % 2 ^ N := by
      rw [Nat.mul_succ, Nat.pow_add, Nat.mul_comm (2 ^ (N * a))]
      exact Nat.mod_mul_right_mod x (2 ^ N) (2 ^ (N * a))
    have h2 : x % 2 ^ (N * (a + 1)) / 2 ^ N = x / 2 ^ N % 2 ^ (N * a) := by
      rw [Nat.mul_succ, Nat.pow_add, Nat.mul_comm (2 ^ (N * a))]
      exact Nat.mod_mul_right_div_self x (2 ^ N) (2 ^ (N * a))
    have h3 : x / 2 ^ (N * (a + 1)) = x / 2 ^ N / 2 ^ (N * a) := by
      rw [Nat.mul_succ, Nat.pow_add, Nat.mul_comm (2 ^ (N * a)), Nat.div_div_eq_div_mul]
    rw [e, digs, digs_append N a b, digs, h1, h2, h3, List.cons_append]
theorem digs_one {N x : Nat} (h : x < 2 ^ (N * 1)) : digs N 1 x = [((x : Nat) : Int)] := by
  rw [Nat.mul_one] at h
  simp [digs, Nat.mod_eq_of_lt h]
/-- the parts laid into the list from Lo on -/
def fillD (ns : List Int) (Lo m N x : Nat) : List Int := ns.take Lo ++ (digs N m x ++ ns.drop (Lo + m))
theorem fillD_length {ns : List Int} {Lo m N x : Nat} (h : Lo + m ≤ ns.length) : (fillD ns Lo m N x).length = ns.length := by
  unfold fillD
  rw [List.length_append, List.length_append, digs_length, List.length_take, List.length_drop]
  omega
theorem fillD_one {ns : List Int} {Lo N x : Nat} (hlt : Lo < ns.length) (hx : x < 2 ^ (N * 1)) : ns.set Lo ((x : Nat) : Int) = fillD ns Lo 1 N x := by
  unfold fillD
  rw [digs_one hx, List.set_eq_take_append_cons_drop, if_pos hlt]
  rfl
theorem fillD_two {ns : List Int} {Lo a b N x : Nat} (h : Lo + (a + b) ≤ ns.length) : fillD (fillD ns Lo a N (x % 2 ^ (N * a))) (Lo + a) b N (x / 2 ^ (N * a)) = fillD ns Lo (a + b) N x := by
  have hl : (ns.take Lo ++ digs N a (x % 2 ^ (N * a))).length = Lo + a := by
    rw [List.length_append, digs_length, List.length_take]; omega
  have e1 : (fillD ns Lo a N (x % 2 ^ (N * a))).take (Lo + a) = ns.take Lo ++ digs N a (x % 2 ^ (N * a)) := by
    unfold fillD
    rw [← List.append_assoc, ← hl, List.take_left]
  have e2 : (fillD ns Lo a N (x % 2 ^ (N * a))).drop (Lo + a + b) = ns.drop (Lo + (a + b)) := by
    unfold fillD
    rw [← List.append_assoc, ← List.drop_drop, ← hl, List.drop_left, List.drop_drop]
    rw [hl]
    congr 1
    omega
  show (fillD ns Lo a N (x % 2 ^ (N * a))).take (Lo + a) ++ (digs N b (x / 2 ^ (N * a)) ++ (fillD ns Lo a N (x % 2 ^ (N * a))).drop (Lo + a + b)) = ns.take Lo ++ (digs N (a + b) x ++ ns.drop (Lo + (a + b)))
  rw [e1, e2, digs_append]
  simp only [List.append_assoc]
end
section
/-- the number of the parts -/
def ofD (N : Nat) : List Nat → Nat
  | [] => 0
  | d :: r => d + 2 ^ N * ofD N r
theorem ofD_append (N : Nat) : ∀ a b : List Nat, ofD N (a ++ b) = ofD N a + 2 ^ (N * a.length) * ofD N b
  | [], b => by simp [ofD]
  | d :: r, b => by
    rw [List.cons_append, ofD, ofD_append N r b, ofD, List.length_cons, Nat.mul_succ, Nat.pow_add, Nat.mul_add, Nat.mul_comm (2 ^ (N * r.length)) (2 ^ N), Nat.mul_assoc]
    omega
theorem ofD_lt (N : Nat) : ∀ ds : List Nat, (∀ d ∈ ds, d < 2 ^ N) → ofD N ds < 2 ^ (N * ds.length)
  | [], _ => by simp [ofD]
  | d :: r, h => by
    have h1 := h d (List.mem_cons_self ..)
    have h2 := ofD_lt N r fun x hx => h x (List.mem_cons_of_mem _ hx)
    rw [ofD, List.length_cons, Nat.mul_succ, Nat.pow_add, Nat.mul_comm (2 ^ (N * r.length))]
    have h3 : 2 ^ N * (ofD N r + 1) ≤ 2 ^ N * 2 ^ (N * r.length) := Nat.mul_le_mul_left _ h2
    rw [Nat.mul_succ] at h3
    omega
/-- the number of the parts from Lo to Hi -/
def ofSeg (N : Nat) (ds : List Nat) (Lo Hi : Nat) : Nat := ofD N ((ds.drop Lo).take (Hi - Lo))
theorem ofSeg_one {N : Nat} {ds : List Nat} {Lo : Nat} (h : Lo < ds.length) : ofSeg N ds Lo (Lo + 1) = ds.getD Lo 0 := by
  unfold ofSeg
  have e : Lo + 1 - Lo = 1 := by omega
  rw [e, List.drop_eq_getElem_cons h, List.take_succ_cons, List.take_zero]
  simp [ofD, h]
theorem ofSeg_two {N : Nat} {ds : List Nat} {Lo M Hi : Nat} (h1 : Lo ≤ M) (h2 : M ≤ Hi) (h3 : Hi ≤ ds.length) : ofSeg N ds Lo Hi = ofSeg N ds M Hi * 2 ^ ((M - Lo) * N) + ofSeg N ds Lo M := by
  unfold ofSeg
  have e : (ds.drop Lo).take (Hi - Lo) = (ds.drop Lo).take (M - Lo) ++ (ds.drop M).take (Hi - M) := by
    have e1 : Hi - Lo = (M - Lo) + (Hi - M) := by omega
    rw [e1, List.take_add, List.drop_drop]
    congr 3
    omega
  have hl : ((ds.drop Lo).take (M - Lo)).length = M - Lo := by
    rw [List.length_take, List.length_drop]; omega
  rw [e, ofD_append, hl, Nat.mul_comm N, Nat.mul_comm (2 ^ _)]
  omega
theorem ofSeg_lt {N : Nat} {ds : List Nat} {Lo Hi : Nat} (h : ∀ d ∈ ds, d < 2 ^ N) (h3 : Hi ≤ ds.length) : ofSeg N ds Lo Hi < 2 ^ (N * (Hi - Lo)) := by
  unfold ofSeg
  have hl : ((ds.drop Lo).take (Hi - Lo)).length = Hi - Lo := by
    rw [List.length_take, List.length_drop]; omega
  have := ofD_lt N ((ds.drop Lo).take (Hi - Lo)) fun d hd => h d (List.mem_of_mem_drop (List.mem_of_mem_take hd))
  rw [hl] at this
  exact this
theorem ofSeg_all (N : Nat) (ds : List Nat) : ofSeg N ds 0 ds.length = ofD N ds := by
  unfold ofSeg
  rw [List.drop_zero, Nat.sub_zero, List.take_length]
end
end
section
open PySem PySem.W PyProof.Rows PySem.Spec PySem.Calls
section
theorem top_off_F12 : True := by
  w_top off
  k_with_none
  trivial
theorem lines_F12_1 : True := by
  (k_with "mine subscriptTail Name Constant ref int" => (k_here; (with_reducible show wpAny _ _ (subscriptTail _ _ (Value.ref _) (Value.int _ _)) _ _ _); (with_unfolding_all refine' item_base ?k1_h ?k2_h ?k3_h ?k4_h ?k5_h ?_ ?k6_h; (case k1_h => k_asm); (case k2_h => assumption); (case k3_h => decide); (case k4_h => decide); (case k5_h => first | exact at3_0 | exact at3_1 | exact at3_2); (case k6_h => with_unfolding_all rfl); k_whole)))
  (k_with "mine call builtin:min" => (k_here; (with_reducible show wpAny _ _ (call (Value.builtin _) [Value.ref _]) _ _ _); k_dflt (refine' minLK ?k1_h ?k2_h ?k3_h ?k4_h ?_; (case k1_h => k_asm); (case k2_h => k_asm); (case k3_h => exact rfl); (case k4_h => assumption); k_whole); intro y_q h_q tk_q F_q N_q; (try dsimp only); (try k_sweep)))
  (k_with "mine call builtin:max" => (k_here; (with_reducible show wpAny _ _ (call (Value.builtin _) [Value.ref _]) _ _ _); k_dflt (refine' maxLK ?k1_h ?k2_h ?k3_h ?k4_h ?_; (case k1_h => k_asm); (case k2_h => k_asm); (case k3_h => exact rfl); (case k4_h => assumption); k_whole); intro y_q h_q tk_q F_q N_q; (try dsimp only); (try k_sweep)))
  (k_with "mine eval ListComp" => (k_here; refine Halt.out ?_))
  (k_with "mine exec Assign cons ListComp" => (k_here; refine Halt.out ?_))
  (k_with "mine pyIter ref" => (k_here; refine Halt.out ?_))
  (k_with "mine compareOp NotEq ref ref" => (k_here; k_dflt (refine' ke_ne_ints ?k1_h ?k2_h ?k3_h ?k4_h ?k5_h ?_; (case k1_h => (first | exact Heap.IsList.at (by assumption) (fun o e => Fr.keep (by assumption) _ o e) | exact listOf_is (News.get (by assumption) (by k_mem)))); (case k2_h => (first | exact Heap.IsList.at (by assumption) (fun o e => Fr.keep (by assumption) _ o e) | exact listOf_is (News.get (by assumption) (by k_mem)))); (case k3_h => (first | exact ints3 | exact IntsAre.nil | assumption)); (case k4_h => (first | exact ints3 | exact IntsAre.nil | assumption)); (case k5_h => ktr_units); k_whole)))
  (k_with "mine compareOp Eq ref ref" => (k_here; k_dflt (refine' ke_eq_ints ?k1_h ?k2_h ?k3_h ?k4_h ?k5_h ?_; (case k1_h => (first | exact Heap.IsList.at (by assumption) (fun o e => Fr.keep (by assumption) _ o e) | exact listOf_is (News.get (by assumption) (by k_mem)))); (case k2_h => (first | exact Heap.IsList.at (by assumption) (fun o e => Fr.keep (by assumption) _ o e) | exact listOf_is (News.get (by assumption) (by k_mem)))); (case k3_h => (first | exact ints3 | exact IntsAre.nil | assumption)); (case k4_h => (first | exact ints3 | exact IntsAre.nil | assumption)); (case k5_h => ktr_units); k_whole)))
  trivial
/-- the def within the def at f0 -/
def InnerIs (w : World) (f0 : Addr) (name : Str) (params : Arguments) (body : List Stmt) (scope : Scope) : Prop :=
  ∃ oc od osl nm ql pr s1 ds rt tp ts bnd pos rest sc dV kV doc pm an cdv ct, (hd.heap_1 w.params).lookup f0 = some ⟨oc, od, .func (fnOf nm ql pr (s1 :: .FunctionDef name params body ds rt tp scope ts bnd pos :: rest) sc dV kV doc pm an cdv ct), osl⟩
theorem lit_of {K : Frag} {a : Addr} {o o' : Obj} {P : Prop} (h1 : K.lookup a = some o') (h2 : K.lookup a = some o) (h : o' = o → P) : P := h (by rw [h1] at h2; exact Option.some.inj h2)
/-- inner stands, with its cells and its code -/
structure Stands (f cA cI cN c' : Addr) (oA oI oN : Obj) (fo : Obj) (qual : Str) (h : Heap) : Prop where
  fn : h.get? f = some fo
  a : h.get? cA = some oA
  i : h.get? cI = some oI
  n : h.get? cN = some oN
  c : h.CodeRec (.ref c') qual
theorem lines_F12_2 : True := by
  (k_with "mine eval Name" => (k_here; k_dflt (refine' nameX_FG ?F_h ?c_h ?v_h ?d_h ?_ ?a_h ?b_h; (case a_h => rfl); (case b_h => rfl); (case F_h => k_asm); (case c_h => rfl); (case v_h => assumption); (case d_h => assumption); k_whole)))
  trivial
theorem fnAt_ground {g h : Heap} {L q : Addr} {m : Str → Option Value} {oc : Value} {od : Option Addr} {fd : FuncData} {sl : Array (Option Value)} (F : Fr g L h m) (e : g.get? q = some ⟨oc, od, .func fd, sl⟩) : FnAt q h := ⟨oc, od, fd, sl, F.keep _ _ e⟩
theorem lines_F12_3 : True := by
  (k_with "mine callWith ref" => (k_here; k_dflt (refine' callWith_F ?k1_h ?_; (case k1_h => exact fnAt_ground (by k_asm) (by assumption)); k_whole)))
  (k_with "mine FnAt" => (k_dflt (exact fnAt_ground (by k_asm) (by assumption))))
  (k_with "mine call ref" => (k_here; refine Halt.out ?_))
  (k_with "mine binaryOp RShift int int" => (k_here; with_reducible refine n_shr ?_; intro t_q tk_q))
  (k_with "mine binaryOp RShift int int" => (k_here; with_reducible refine n_mid ?_; intro t_q tk_q))
  (k_with "mine binaryOp LShift int int" => (k_here; with_reducible refine' n_shl ?k1_h ?k2_h ?_; (case k1_h => assumption); (case k2_h => assumption); intro t_q tk_q))
  (k_with "mine binaryOp Mult int int" => (k_here; with_reducible refine' n_subMul ?k1_h ?k2_h ?_; (case k1_h => omega); (case k2_h => omega); intro t_q tk_q))
  (k_with "mine binaryOp BitXor int int" => (k_here; with_reducible refine n_xor ?_; intro t_q tk_q))
  trivial
theorem mid_lt {Lo Hi M : Nat} (h : (Lo + Hi) / 2 = M) (hlo : Lo < Hi) (hne : ¬ Hi = Lo + 1) : Lo < M ∧ M < Hi := by omega
theorem mid_half {Lo Hi M c : Nat} (h : (Lo + Hi) / 2 = M) (hk : Hi - Lo ≤ 2 * c) : M - Lo ≤ c ∧ Hi - M ≤ c := by omega
theorem mid_64 {Lo Hi n : Nat} (h1 : Hi ≤ n) (h2 : n ≤ 64) : (Lo + Hi) / 2 - Lo ≤ 64 := by omega
theorem seg_64 {Lo Hi n : Nat} (h1 : Hi ≤ n) (h2 : n ≤ 64) : Hi - Lo ≤ 64 := by omega
theorem two_pow {a k : Nat} (h : a ≤ 2 ^ (k + 1)) : a ≤ 2 * 2 ^ k := by rw [Nat.pow_succ] at h; omega
theorem not_leaf {Lo Hi k : Nat} (h : Hi - Lo ≤ 2 ^ k) (hlo : Lo < Hi) (hne : ¬ Hi = Lo + 1) : ∃ k', k = k' + 1 := by
  refine ⟨k - 1, ?_⟩
  rcases Nat.eq_zero_or_pos k with h0 | h0
  · rw [h0] at h; omega
  · omega
theorem leaf_one (Lo : Nat) : Lo + 1 - Lo = 1 := by omega
theorem leaf_ne {Lo Hi : Nat} (h : ((Lo : Nat) : Int) + 1 = ((Hi : Nat) : Int)) (hne : ¬ Hi = Lo + 1) : False := by omega
theorem leaf_eq {Lo : Nat} (h : ((Lo : Nat) : Int) + 1 ≠ ((Lo + 1 : Nat) : Int)) : False := by omega
theorem mid_sum {Lo M Hi : Nat} (h1 : Lo < M) (h2 : M < Hi) : Hi - Lo = (M - Lo) + (Hi - M) := by omega
theorem mid_all {Lo M Hi n : Nat} (h1 : Lo < M) (h2 : M < Hi) (h3 : Hi ≤ n) : Lo + (M - Lo) ≤ n ∧ Lo + ((M - Lo) + (Hi - M)) ≤ n ∧ Lo + (M - Lo) = M := by omega
theorem inner1_spec (w : World) (f D cA cI cN c' : Addr) (N : Nat) (tn : Tok) (oA oI oN : Obj) {name : Str} {params : Arguments} {body : List Stmt} {scope : Scope} {doc pm ctv : Value} (hI : InnerIs w 42 name params body scope)
    (hoA : oA.data = .cell (some (.ref D))) (hoI : oI.data = .cell (some (.ref f))) (hoN : oN.data = .cell (some (.int ((N : Nat) : Int) tn))) (hN1 : 1 ≤ N) (hN2 : N ≤ 200) :
    ∀ (k : Nat) (x Lo Hi : Nat) (tx tl th : Tok) (ns : List Int), Hi - Lo ≤ 2 ^ k → Lo < Hi → Hi ≤ ns.length → ns.length ≤ 64 → x < 2 ^ (N * (Hi - Lo)) →
      SpecM [D] w (k + 1) (8 * (k + 1)) (.ref f) [.int ((x : Nat) : Int) tx, .int ((Lo : Nat) : Int) tl, .int ((Hi : Nat) : Int) th]
        (fun h => Stands f cA cI cN c' oA oI oN (fnMade name qual1 params body scope [(Str.ofString "n", cN), (Str.ofString "inner", cI), (Str.ofString "a_digits", cA)] doc pm c' ctv) qual1 h ∧ ∃ ws kk, h.get? D = some (W.listOf (List.toArray ws) kk) ∧ IntsAre ws ns)
        (fun _ r h' => r = .none ∧ ∃ ws kk, h'.get? D = some (W.listOf (List.toArray ws) kk) ∧ IntsAre ws (fillD ns Lo (Hi - Lo) N x)) := by
  refine hide ?_
  intro GG bk
  obtain ⟨oc, od, osl, nm, ql, pr, s1, ds, rt, tp, ts, bnd, pos, rest, sc, dV, kV, doc', pm', an, cdv, ct, hl⟩ := hI
  refine bk ?_
  clear bk
  refine' lit_of ?k1 hl ?_
  (case k1 => k_is)
  intro e
  cases e
  clear hl
  intro k
  induction k using Nat.strongRecOn with
  | ind k ih =>
    intro x Lo Hi tx tl th ns hk1 hlo hhi hns hx
    unfold SpecM
    intro p lz mean mg mb dp un gd cn cs a' ccd cl outer A₀ base h₀ L m s Q E H hS hdp hu hok hret
    refine hide ?_
    intro GG bk
    obtain ⟨B, F, X, T, hk⟩ := H
    obtain ⟨⟨hf, hA, hI, hNn, hc⟩, ws, kk, hD, hws⟩ := hok
    refine bk ?_
    clear bk
    have hcf : cA ≠ D := fun e => by rw [e, hD] at hA; cases hA; cases hoA
    have hci : cI ≠ D := fun e => by rw [e, hD] at hI; cases hI; cases hoI
    have hcn : cN ≠ D := fun e => by rw [e, hD] at hNn; cases hNn; cases hoN
    have hfD : f ≠ D := fun e => by rw [e, hD] at hf; exact nomatch congrArg Obj.data (Option.some.inj hf)
    have N0 : News h₀ L s.heap [(D, W.listOf (List.toArray ws) kk)] := fun q hq => by
      rw [List.mem_singleton.mp hq]
      exact ⟨hD, (hS D (List.mem_singleton.mpr rfl)).2, (hS D (List.mem_singleton.mpr rfl)).1⟩
    ((refine wpAny_call ?_; k_dflt (refine' enterX ?k1 ?k2 ?k3 ?k4 ?k5 ?kA ?kF ?kK ?k6 ?k6b ?k7 ?k8 ?k9 ?kB ?_ ?c2 ?c3 ?c4 ?c5; (case kA => exact rfl); (case kF => exact rfl); (case kK => assumption); (case k1 => k_asm); (case k2 => k_asm); (case k3 => k_asm); (case k4 => assumption); (case k5 => k_asm); (case k6 => assumption); (case k6b => exact rfl); (case k7 => assumption); (case k8 => ktr_room); (case k9 => exact BindsTo.of_eq rfl); (case c5 => decide); (case kB => exact locs rfl); (case c2 => exact rfl); (case c3 => exact rfl); (case c4 => exact rfl); k_whole)))
    intro g' L' h' hG FG' F' N' B' X' T' lt'
    have C1' := head1 X'
    have gA := hG _ _ hA (by simpa using hcf)
    have gI := hG _ _ hI (by simpa using hci)
    have gN := hG _ _ hNn (by simpa using hcn)
    have gF := hG _ _ hf (by simpa using hfD)
    have gC : g'.CodeRec (.ref c') qual1 := by
      refine hide ?_
      intro GG bk
      obtain ⟨c9, o9, vs9, t9, e1, e2, e3, e4⟩ := hc
      refine bk ?_
      clear bk
      exact ⟨c9, o9, vs9, t9, e1, hG _ _ e2 (by
        simp only [List.map_cons, List.map_nil, List.mem_singleton]
        intro e; rw [e, hD] at e2; cases e2; cases e3), e3, e4⟩
    by_cases hleaf : Hi = Lo + 1
    · subst hleaf
      try dsimp only
      try k_fold
      k_steps
      · rename Fr g' _ _ _ => F7
        rename News g' L' _ _ => N7
        rename IntsAre _ (List.set _ _ _) => hI7
        refine hret _ _ _ (fun b o hb e => F7.keep b o (hG b o e (by simpa using hb))) ⟨rfl, _, _, (N7 _ (List.mem_cons_self ..)).1, ?_⟩
        have e1 := leaf_one Lo
        rw [e1] at hx ⊢
        rw [← fillD_one hhi hx]
        exact hI7
      · rename _ ≠ _ => hne
        exact (leaf_eq hne).elim
    · obtain ⟨k', rfl⟩ := not_leaf hk1 hlo hleaf
      have hk2 := two_pow hk1
      clear hk1
      have hS1 : ((Lo + Hi) / 2 - Lo) * N ≤ 12800 := Nat.le_trans (Nat.mul_le_mul (mid_64 hhi hns) hN2) (by decide)
      have hB : x / 2 ^ (((Lo + Hi) / 2 - Lo) * N) < 2 ^ 12800 := by
        refine Nat.lt_of_le_of_lt (Nat.div_le_self _ _) (Nat.lt_of_lt_of_le hx (Nat.pow_le_pow_right (by decide) ?_))
        exact Nat.le_trans (Nat.mul_le_mul hN2 (seg_64 hhi hns)) (by decide)
      have hB2 : 12800 + ((Lo + Hi) / 2 - Lo) * N ≤ 2 ^ 27 := Nat.le_trans (Nat.add_le_add_left hS1 _) (by decide)
      try dsimp only
      try k_fold
      k_steps
      · rename ((Lo : Nat) : Int) + 1 = _ => hne
        exact (leaf_ne hne hleaf).elim
      generalize hM : (Lo + Hi) / 2 = M at *
      obtain ⟨hM1, hM2⟩ := mid_lt hM hlo hleaf
      have hMk := mid_half hM hk2
      have hSm : (M - Lo) * N = N * (M - Lo) := Nat.mul_comm _ _
      rw [hSm] at *
      have hSm2 : (M - Lo) * N = N * (M - Lo) := Nat.mul_comm _ _
      have hsum := mid_sum hM1 hM2
      have hall := mid_all hM1 hM2 hhi
      have hxl : x % 2 ^ (N * (M - Lo)) < 2 ^ (N * (M - Lo)) := Nat.mod_lt _ (Nat.two_pow_pos _)
      have hxu : x / 2 ^ (N * (M - Lo)) < 2 ^ (N * (Hi - M)) := by
        rw [hsum, Nat.mul_add, Nat.pow_add] at hx
        exact Nat.div_lt_of_lt_mul hx
      have hxu2 : x / 2 ^ ((M - Lo) * N) < 2 ^ (N * (Hi - M)) := by
        rw [hSm2]
        rw [hsum, Nat.mul_add, Nat.pow_add] at hx
        exact Nat.div_lt_of_lt_mul hx
      rename Fr g' L' _ _ => F8
      rename News g' L' _ _ => N8
      refine Halt.mk ?_
      have hS' : ∀ b ∈ [D], g'.get? b = none ∧ b ≠ L' := fun b hb => by
        rw [List.mem_singleton.mp hb]
        exact ⟨(N8 _ (List.mem_cons_self ..)).2.2, (N8 _ (List.mem_cons_self ..)).2.1⟩
      k_dflt (refine' useM (news := []) (ih k' (Nat.lt_succ_self _) _ Lo M _ _ _ ns hMk.1 hM1 (Nat.le_trans (Nat.le_of_lt hM2) hhi) hns hxl) B' F8 X' News.nil (by simp) T' rfl ?kd ?ku hS' ?kp ?_)
      (case kd => ktr_room); (case ku => ktr_units)
      (case kp => exact ⟨⟨F8.keep _ _ gF, F8.keep _ _ gA, F8.keep _ _ gI, F8.keep _ _ gN, gC.keeps F8.keep⟩, ws, kk, (N8 _ (List.mem_cons_self ..)).1, hws⟩)
      intro r1 h1 tk1 F1 _ up1 out1
      refine hide ?_
      intro GG bk
      obtain ⟨rfl, ws1, kk1, hD1, hws1⟩ := out1
      refine bk ?_
      clear bk
      clear up1
      have N1 : News g' L' h1 [(D, W.listOf (List.toArray ws1) kk1)] := fun q hq => by
        rw [List.mem_singleton.mp hq]
        exact ⟨hD1, (hS' D (List.mem_singleton.mpr rfl)).2, (hS' D (List.mem_singleton.mpr rfl)).1⟩
      have hlen1 : (fillD ns Lo (M - Lo) N (x % 2 ^ (N * (M - Lo)))).length = ns.length := fillD_length hall.1
      clear F8 N8
      try dsimp only
      try k_fold
      k_steps
      rename Fr g' L' _ _ => F8
      rename News g' L' _ _ => N8
      refine Halt.mk ?_
      k_dflt (refine' useM (news := []) (ih k' (Nat.lt_succ_self _) _ M Hi _ _ _ (fillD ns Lo (M - Lo) N (x % 2 ^ (N * (M - Lo)))) hMk.2 hM2 (Nat.le_trans hhi (Nat.le_of_eq hlen1.symm)) (Nat.le_trans (Nat.le_of_eq hlen1) hns) hxu2) B' F8 X' News.nil (by simp) T' rfl ?kd ?ku hS' ?kp ?_)
      (case kd => ktr_room); (case ku => ktr_units)
      (case kp => exact ⟨⟨F8.keep _ _ gF, F8.keep _ _ gA, F8.keep _ _ gI, F8.keep _ _ gN, gC.keeps F8.keep⟩, ws1, kk1, (N8 _ (List.mem_cons_self ..)).1, hws1⟩)
      intro r2 h2 tk2 F2 _ up2 out2
      refine hide ?_
      intro GG bk
      obtain ⟨rfl, ws2, kk2, hD2, hws2⟩ := out2
      refine bk ?_
      clear bk
      clear up2
      have N2 : News g' L' h2 [(D, W.listOf (List.toArray ws2) kk2)] := fun q hq => by
        rw [List.mem_singleton.mp hq]
        exact ⟨hD2, (hS' D (List.mem_singleton.mpr rfl)).2, (hS' D (List.mem_singleton.mpr rfl)).1⟩
      clear F8 N8
      try dsimp only
      try k_fold
      k_steps
      rename Fr g' _ _ _ => F7
      rename News g' L' _ _ => N7
      refine hret _ _ _ (fun b o hb e => F7.keep b o (hG b o e (by simpa using hb))) ⟨rfl, _, _, (N7 _ (List.mem_cons_self ..)).1, ?_⟩
      have e2 := fillD_two (ns := ns) (Lo := Lo) (a := M - Lo) (b := Hi - M) (N := N) (x := x) hall.2.1
      have e3 := hall.2.2
      rw [e3, ← hsum] at e2
      rw [hSm2] at hws2
      rw [← e2]
      exact hws2
end
end
section
open PySem PySem.W PyProof.Rows PySem.Spec PySem.Calls
section
theorem top_off_F13 : True := by
  w_top off
  k_with_none
  trivial
theorem lines_F13_1 : True := by
  (k_with "mine subscriptTail Name Constant ref int" => (k_here; (with_reducible show wpAny _ _ (subscriptTail _ _ (Value.ref _) (Value.int _ _)) _ _ _); (with_unfolding_all refine' item_base ?k1_h ?k2_h ?k3_h ?k4_h ?k5_h ?_ ?k6_h; (case k1_h => k_asm); (case k2_h => assumption); (case k3_h => decide); (case k4_h => decide); (case k5_h => first | exact at3_0 | exact at3_1 | exact at3_2); (case k6_h => with_unfolding_all rfl); k_whole)))
  (k_with "mine call builtin:min" => (k_here; (with_reducible show wpAny _ _ (call (Value.builtin _) [Value.ref _]) _ _ _); k_dflt (refine' minLK ?k1_h ?k2_h ?k3_h ?k4_h ?_; (case k1_h => k_asm); (case k2_h => k_asm); (case k3_h => exact rfl); (case k4_h => assumption); k_whole); intro y_q h_q tk_q F_q N_q; (try dsimp only); (try k_sweep)))
  (k_with "mine call builtin:max" => (k_here; (with_reducible show wpAny _ _ (call (Value.builtin _) [Value.ref _]) _ _ _); k_dflt (refine' maxLK ?k1_h ?k2_h ?k3_h ?k4_h ?_; (case k1_h => k_asm); (case k2_h => k_asm); (case k3_h => exact rfl); (case k4_h => assumption); k_whole); intro y_q h_q tk_q F_q N_q; (try dsimp only); (try k_sweep)))
  (k_with "mine eval ListComp" => (k_here; refine Halt.out ?_))
  (k_with "mine exec Assign cons ListComp" => (k_here; refine Halt.out ?_))
  (k_with "mine pyIter ref" => (k_here; refine Halt.out ?_))
  (k_with "mine compareOp NotEq ref ref" => (k_here; k_dflt (refine' ke_ne_ints ?k1_h ?k2_h ?k3_h ?k4_h ?k5_h ?_; (case k1_h => (first | exact Heap.IsList.at (by assumption) (fun o e => Fr.keep (by assumption) _ o e) | exact listOf_is (News.get (by assumption) (by k_mem)))); (case k2_h => (first | exact Heap.IsList.at (by assumption) (fun o e => Fr.keep (by assumption) _ o e) | exact listOf_is (News.get (by assumption) (by k_mem)))); (case k3_h => (first | exact ints3 | exact IntsAre.nil | assumption)); (case k4_h => (first | exact ints3 | exact IntsAre.nil | assumption)); (case k5_h => ktr_units); k_whole)))
  (k_with "mine compareOp Eq ref ref" => (k_here; k_dflt (refine' ke_eq_ints ?k1_h ?k2_h ?k3_h ?k4_h ?k5_h ?_; (case k1_h => (first | exact Heap.IsList.at (by assumption) (fun o e => Fr.keep (by assumption) _ o e) | exact listOf_is (News.get (by assumption) (by k_mem)))); (case k2_h => (first | exact Heap.IsList.at (by assumption) (fun o e => Fr.keep (by assumption) _ o e) | exact listOf_is (News.get (by assumption) (by k_mem)))); (case k3_h => (first | exact ints3 | exact IntsAre.nil | assumption)); (case k4_h => (first | exact ints3 | exact IntsAre.nil | assumption)); (case k5_h => ktr_units); k_whole)))
  trivial
theorem updF_mid {P : Addr} {o : Obj} {l2 : List (Addr × Obj)} (h2 : ∀ q ∈ l2, q.1 ≠ P) : ∀ {news : List (Addr × Obj)}, (∀ q ∈ news, q.1 ≠ P) → UpdF P o (news ++ ((P, o) :: l2)) (fun o' => news ++ ((P, o') :: l2))
  | [], _ => .head h2
  | q :: r, h => .tail (h q (List.mem_cons_self ..)) (updF_mid h2 fun q hq => h q (List.mem_cons_of_mem _ hq))
section
variable {M : Model} {A : Around} {E : Value → Shared → Prop} {s : Shared} {h₀ : Heap} {L a c P : Addr} {m mg mb : Str → Option Value} {cn : Str} {cs : Scope} {ccd : Value} {cl : List (Str × Addr)} {news l1 l2 : List (Addr × Obj)}
  {p : Program} {loose : List Str} {mean : ExcName → Option Value} {name qual : Str} {params : Arguments} {body : List Stmt} {scope : Scope} {pos : Pos} {firstLine : Nat} {clos : List (Str × Addr)}
/-- a def within a def, whatever is known of its table -/
theorem nestLed {Q : Value → Shared → Prop} (F : Fr h₀ L s.heap m) (N : News h₀ L s.heap (news ++ (l1 ++ l2))) (T : Top p loose mean mg mb h₀) (C : CodeHd h₀ c P) (hcd : ccd = .ref c) (hl : TabLed P pos.line pos.col qual l1)
    (hn : ∀ q ∈ news, q.1 ≠ P) (h2 : ∀ q ∈ l2, q.1 ≠ P) (hcl : closureFor scope (envX cn cs L a ccd cl) = pure clos)
    (h : ∀ (f c' : Nat) oc vs t ctv doc h' tk l1', TabLed P pos.line pos.col qual l1' → (c', oc) ∈ l1' → oc.data = .fields vs → vs[1]? = some (.str qual t) → Fr h₀ L h' m →
      News h₀ L h' ((f, fnMade name qual params body scope clos doc ((mg "__name__").getD .none) c' ctv) :: (news ++ (l1' ++ l2))) → (∀ q ∈ news ++ (l1 ++ l2), @LT.lt Nat _ q.1 f) → (∀ q ∈ l1', (∃ o, (q.1, o) ∈ l1) ∨ (∀ r ∈ news, r.1 ≠ q.1)) → (∀ q ∈ l1', @LT.lt Nat _ q.1 f) → Kept l1 l1' → Q (.ref f) { s with heap := h', toks := tk }) :
    wpAny M A (makeFunction name qual params (.stmts body) scope (envX cn cs L a ccd cl) [] [] [] pos firstLine) Q E s := by
  have hal : (((pos.line : Nat) : Int) == ((pos.line : Nat) : Int) && ((pos.col : Nat) : Int) == ((pos.col : Nat) : Int)) = true := by simp
  cases hl with
  | none =>
    refine nest_K F N T C hcd (updF_mid h2 hn) trivial rfl hcl fun f c' oc vs t ctv doc h' tk F' N' hd hv lt1 lt2 => ?_
    refine h f c' oc vs t ctv doc h' tk [(P, tabObj #[rawInt pos.line, rawInt pos.col, .ref c']), (c', oc)] (.some hd hv) (List.mem_cons_of_mem _ (List.mem_cons_self ..)) hd hv F' (fun q hq => N' q ?_) (fun q hq => Nat.lt_trans (lt1 q hq) lt2) (fun q hq => ?_) (fun q hq => ?_) (fun q hq => ?_)
    · simp only [List.mem_cons, List.mem_append, List.not_mem_nil, or_false] at hq ⊢
      rcases hq with hq | hq | (hq | hq) | hq
      · exact .inl hq
      · exact .inr (.inr (.inl hq))
      · exact .inr (.inr (.inr (.inl hq)))
      · exact .inr (.inl hq)
      · exact .inr (.inr (.inr (.inr hq)))
    · simp only [List.mem_cons, List.not_mem_nil, or_false] at hq
      rcases hq with rfl | rfl
      · exact .inl ⟨_, List.mem_cons_self ..⟩
      · exact .inr fun r hr => Nat.ne_of_lt (lt1 r (List.mem_append_left _ hr))
    · simp only [List.mem_cons, List.not_mem_nil, or_false] at hq
      rcases hq with rfl | rfl
      · exact Nat.lt_trans (lt1 (P, tabObj #[]) (List.mem_append_right _ (List.mem_append_left _ (List.mem_cons_self ..)))) lt2
      · exact lt2
    · rw [List.mem_singleton.mp hq]; exact ⟨_, List.mem_cons_self ..⟩
  | @some c' oc vs t hd hv =>
    refine nestHit_K (c' := c') F N T C hcd (List.mem_append_right _ (List.mem_append_left _ (List.mem_cons_self ..))) trivial ?_ hcl fun f ctv doc h' tk F' N' lt1 => ?_
    · show (if (((pos.line : Nat) : Int) == ((pos.line : Nat) : Int) && ((pos.col : Nat) : Int) == ((pos.col : Nat) : Int)) = true then some (Value.ref c') else _) = _
      rw [if_pos hal]
    · exact h f c' oc vs t ctv doc h' tk _ (.some hd hv) (List.mem_cons_of_mem _ (List.mem_cons_self ..)) hd hv F' N' (fun q hq => lt1 q hq) (fun q hq => .inl ⟨q.2, hq⟩) (fun q hq => lt1 q (List.mem_append_right _ (List.mem_append_left _ hq))) (fun q hq => ⟨q.2, hq⟩)
end
/-- what stands at one place -/
theorem News.inj {h₀ h : Heap} {L : Addr} {l : List (Addr × Obj)} (N : News h₀ L h l) {p q : Addr × Obj} (hp : p ∈ l) (hq : q ∈ l) (e : p.1 = q.1) : p.2 = q.2 := by
  have h1 := (N p hp).1
  have h2 := (N q hq).1
  rw [e, h2] at h1
  exact (Option.some.inj h1).symm
theorem TabLed.noTab {P : Addr} {line col : Int} {qual : Str} {l : List (Addr × Obj)} (T : TabLed P line col qual l) {P' : Addr} (hP : P ≠ P') {h₀ h : Heap} {L : Addr} {l' : List (Addr × Obj)} {line' col' : Int} {qual' : Str} (T' : TabLed P' line' col' qual' l') (N : News h₀ L h (l ++ l')) : ∀ q ∈ l, q.1 ≠ P' := by
  intro q hq e
  obtain ⟨o', ho', hd'⟩ : ∃ o', (P', o') ∈ l' ∧ (o' = tabObj #[] ∨ ∃ c', o' = tabObj #[rawInt line' , rawInt col', .ref c']) := by
    cases T' with
    | none => exact ⟨_, List.mem_cons_self .., .inl rfl⟩
    | some _ _ => exact ⟨_, List.mem_cons_self .., .inr ⟨_, rfl⟩⟩
  have e2 := News.inj N (List.mem_append_left _ hq) (List.mem_append_right _ ho') e
  cases T with
  | none => rw [List.mem_singleton.mp hq] at e; exact hP e
  | some h1 h2 =>
    simp only [List.mem_cons, List.not_mem_nil, or_false] at hq
    rcases hq with rfl | rfl
    · exact hP e
    · simp only at e2
      subst e2
      rcases hd' with rfl | ⟨c', rfl⟩
      · cases h1; simp at h2
      · cases h1; simp [rawInt] at h2
theorem Grew.of {h g h' : Heap} {L' : Addr} {TL TL' : List (Addr × Obj)} (hG : ∀ b o, h.get? b = some o → b ∉ TL.map (·.1) → g.get? b = some o) (N : News g L' h' TL') : Grew h TL TL' := fun q hq => by
  by_cases hm : q.1 ∈ TL.map (·.1)
  · obtain ⟨r, hr, e⟩ := List.mem_map.mp hm
    exact .inl ⟨r.2, by rw [← e]; exact hr⟩
  · refine .inr ?_
    cases e : h.get? q.1 with
    | none => rfl
    | some o =>
      have := (N q hq).2.2
      rw [hG _ _ e hm] at this; cases this
theorem UpOff.of {h g h' : Heap} {L' : Addr} {TL : List (Addr × Obj)} {m : Str → Option Value} (hG : ∀ b o, h.get? b = some o → b ∉ TL.map (·.1) → g.get? b = some o) (F : Fr g L' h' m) : UpOff TL h h' := fun b o hb e =>
  F.keep _ _ (hG b o e fun hm => by
    obtain ⟨r, hr, e⟩ := List.mem_map.mp hm
    exact hb r hr e)
theorem lines_F13_2 : True := by
  (k_with "mine exec FunctionDef" => (k_here; refine Halt.out ?_))
  trivial
theorem own_above {TL : List (Addr × Obj)} {L' b : Nat} (h : ∀ p : Addr × Obj, p ∈ TL → @LT.lt Nat _ p.1 L') (hb : L' ≤ b) : ∀ p ∈ TL, p.1 ≠ b := fun p hp => Nat.ne_of_lt (Nat.lt_of_lt_of_le (h p hp) hb)
local macro_rules | `(tactic| k_all) => `(tactic| exact own_above (by assumption) (by omega))

def cntD (a N : Nat) : Nat := (Builtin.Int.intBits ((a : Nat) : Int) + N - 1) / N
/-- a's parts of N bits -/
def digsOf (a N : Nat) : List Int := digs N (cntD a N) a
theorem lines_F13_3 : True := by
  (k_with "mine call ref" => (k_here; refine Halt.out ?_))
  trivial
def I2dOut (a N : Nat) (h : Heap) (r : Value) (h' : Heap) : Prop := ∃ d ws k, r = .ref d ∧ h.get? d = none ∧ h'.get? d = some (W.listOf (List.toArray ws) k) ∧ IntsAre ws (digsOf a N)
theorem cntD_eq {a N : Nat} (hN : 1 ≤ N) : (((Builtin.Int.intBits ((a : Nat) : Int) : Nat) : Int) + ((N : Nat) : Int) - 1).fdiv ((N : Nat) : Int) = ((cntD a N : Nat) : Int) := by
  unfold cntD
  rw [Int.fdiv_eq_ediv_of_nonneg _ (by omega), Int.natCast_ediv]
  congr 1
  omega
theorem TabLed.has {P : Addr} {line col : Int} {qual : Str} {l : List (Addr × Obj)} (T : TabLed P line col qual l) : ∃ o, (P, o) ∈ l := by
  cases T with
  | none => exact ⟨_, List.mem_cons_self ..⟩
  | some _ _ => exact ⟨_, List.mem_cons_self ..⟩
theorem off_cells {L' : Nat} {l1 l1' l2 news : List (Addr × Obj)} (lt' : ∀ p : Addr × Obj, p ∈ l1 ++ l2 → @LT.lt Nat _ p.1 L') (gr : ∀ q ∈ l1', (∃ o, (q.1, o) ∈ l1) ∨ ∀ r ∈ news, r.1 ≠ q.1) {adr : List Addr} (ha : ∀ b ∈ adr, @LE.le Nat _ L' b ∧ ∃ o, (b, o) ∈ news) : OwnOff (l1' ++ l2) adr := by
  intro q hq b hb
  obtain ⟨h1, o9, h2⟩ := ha b hb
  have low : (∃ o, (q.1, o) ∈ l1 ++ l2) → q.1 ≠ b := fun ⟨o, ho⟩ => Nat.ne_of_lt (Nat.lt_of_lt_of_le (lt' (q.1, o) ho) h1)
  rcases List.mem_append.mp hq with hq | hq
  · rcases gr q hq with ⟨o, ho⟩ | h
    · exact low ⟨o, List.mem_append_left _ ho⟩
    · exact (h _ h2).symm
  · exact low ⟨q.2, List.mem_append_right _ hq⟩
theorem off_one {L' : Nat} {l1 l1' l2 news : List (Addr × Obj)} (lt' : ∀ p : Addr × Obj, p ∈ l1 ++ l2 → @LT.lt Nat _ p.1 L') (gr : ∀ q ∈ l1', (∃ o, (q.1, o) ∈ l1) ∨ ∀ r ∈ news, r.1 ≠ q.1) {b : Nat} {o : Obj} (hm : (b, o) ∈ news) (h1 : L' ≤ b) : ∀ q ∈ l1' ++ l2, q.1 ≠ b :=
  (off_cells lt' gr (adr := [b]) (fun c hc => by rw [List.mem_singleton.mp hc]; exact ⟨h1, o, hm⟩)).ne (List.mem_singleton.mpr rfl)
theorem News.swap {g h h' : Heap} {L D : Addr} {pre post : List (Addr × Obj)} {o o' : Obj} (N : News g L h (pre ++ (D, o) :: post)) (h1 : ∀ q ∈ pre, q.1 ≠ D) (h2 : ∀ q ∈ post, q.1 ≠ D) (up : UpBut [D] h h') (hD : h'.get? D = some o') : News g L h' (pre ++ (D, o') :: post) := fun q hq => by
  rcases List.mem_append.mp hq with hq | hq
  · have n := N q (List.mem_append_left _ hq)
    exact ⟨up _ _ (by simpa using h1 q hq) n.1, n.2⟩
  · rcases List.mem_cons.mp hq with rfl | hq
    · exact ⟨hD, (N (D, o) (List.mem_append_right _ (List.mem_cons_self ..))).2⟩
    · have n := N q (List.mem_append_right _ (List.mem_cons_of_mem _ hq))
      exact ⟨up _ _ (by simpa using h2 q hq) n.1, n.2⟩
theorem fillD_all {Z : List Int} {N a c : Nat} (h : Z.length = c) : fillD Z 0 (c - 0) N a = digs N c a := by
  unfold fillD
  rw [Nat.sub_zero, Nat.zero_add, List.take_zero, List.nil_append, ← h, List.drop_length, List.append_nil]
theorem cntD_bits {a N : Nat} (hN : 1 ≤ N) : a < 2 ^ (N * cntD a N) := by
  have h1 : a < 2 ^ Builtin.Int.intBits ((a : Nat) : Int) := by
    have := (PySem.intBits_le_iff (x := ((a : Nat) : Int))).mp (Nat.le_refl _)
    simpa using this
  refine Nat.lt_of_lt_of_le h1 (Nat.pow_le_pow_right (by decide) ?_)
  unfold cntD
  have := Nat.div_add_mod (Builtin.Int.intBits ((a : Nat) : Int) + N - 1) N
  have := Nat.mod_lt (Builtin.Int.intBits ((a : Nat) : Int) + N - 1) (show 0 < N by omega)
  omega
theorem i2d_spec (w : World) (a N : Nat) (t1 t2 : Tok) : SpecT w 10 100 (.ref 42) [.int ((a : Nat) : Int) t1, .int ((N : Nat) : Int) t2] (fun _ => 1 ≤ N ∧ N ≤ 200 ∧ cntD a N ≤ 64) (I2dOut a N) := by
  unfold SpecT
  intro p lz mean mg mb dp un gd cn cs a' ccd cl outer A₀ base h₀ L m s Q E TL H hT NT hdp hu hok hret
  refine hide ?_
  intro GG bk
  obtain ⟨B, F, X, T, hk⟩ := H
  refine bk ?_
  clear bk
  have C1 := head1 X
  ((refine wpAny_call ?_; k_dflt (refine' enterC ?k1 ?k2 ?k3 ?k4 ?k5 ?kA ?kF ?kK ?k6 ?k7 ?k8 ?k9 ?kB ?kD ?_ ?c2 ?c3 ?c4; (case kA => exact rfl); (case kF => exact rfl); (case kK => assumption); (case k1 => k_asm); (case k2 => k_asm); (case k3 => k_asm); (case k4 => assumption); (case k5 => k_asm); (case k6 => k_is); (case k7 => k_is); (case k8 => ktr_room); (case k9 => exact BindsTo.of_eq rfl); (case kB => exact rfl); (case kD => decide +kernel); (case c2 => exact rfl); (case c3 => exact rfl); (case c4 => exact rfl); k_whole)))
  intro g' L' h' tk' cells' hG _ FG' F' N' Y' B' X' T' lt'
  k_cells Y'
  try simp only [List.cons_append, List.nil_append] at N'
  have C1' := head1 X'
  rename _ = Data.cell (bindC _ _ _ (Str.ofString "n")) => dN
  have dN : _ = Data.cell (some (.int ((N : Nat) : Int) t2)) := dN
  refine hide ?_
  intro GG bk
  obtain ⟨hn, hn2, hq1⟩ := hok
  refine bk ?_
  clear bk
  have hqe := cntD_eq (a := a) hn
  have hq0 : 0 ≤ (((Builtin.Int.intBits ((a : Nat) : Int) : Nat) : Int) + ((N : Nat) : Int) - 1).fdiv ((N : Nat) : Int) := by omega
  try dsimp only
  try k_fold
  k_steps
  rename Fr g' L' _ _ => F8
  rename News g' L' _ _ => N8
  rename _ = Data.cell (some (Value.ref _)) => dA
  rename (List.flatten _).length = _ => hz1
  have hlen : (List.replicate ((((Builtin.Int.intBits ((a : Nat) : Int) : Nat) : Int) + ((N : Nat) : Int) - 1).fdiv ((N : Nat) : Int)).toNat [(0 : Int)]).flatten.length = cntD a N := by rw [flat_rep, List.length_replicate, hqe, Int.toNat_natCast]
  have hn1 := hz1.symm.trans hlen
  subst hn1
  rename IntsAre (List.flatten _) _ => hz
  generalize hZ : (List.replicate ((((Builtin.Int.intBits ((a : Nat) : Int) : Nat) : Int) + ((N : Nat) : Int) - 1).fdiv ((N : Nat) : Int)).toNat [(0 : Int)]).flatten = Z at hz hlen
  refine hide ?_
  intro GG bk
  obtain ⟨l1, l2, rfl, hl1, hl2⟩ := hT
  refine bk ?_
  clear bk
  have NTs := NT
  have h37 : @LT.lt Nat _ 37 L' := by
    obtain ⟨o, ho⟩ := hl1.has
    exact lt' _ (List.mem_append_left _ ho)
  have h2 : ∀ q ∈ l2, q.1 ≠ 37 := hl2.noTab (by decide) hl1 (fun q hq => NT q (by simp only [List.mem_append] at hq ⊢; exact hq.symm))
  refine Halt.mk (nestDef_K rfl rfl rfl ?_)
  refine nestLed (news := [_, _, _, _, _]) F8 N8 T' C1' rfl hl1 ?hn h2 rfl ?_
  · intro q hq
    simp only [List.mem_cons, List.not_mem_nil, or_false] at hq
    rcases hq with rfl | rfl | rfl | rfl | rfl <;> (refine neN ?_; dsimp only; omega)
  intro f c' oc vs t ctv doc h9 tk9 l1' hl1' hc' hd hv F9 N9 ltf gr ltc kp
  have hoff : OwnOff (l1' ++ l2) [L' + 1, L' + 1 + 1, L' + 1 + 1 + 1] := off_cells lt' gr (fun b hb => by
    simp only [List.mem_cons, List.not_mem_nil, or_false] at hb
    rcases hb with rfl | rfl | rfl
    · exact ⟨by omega, _, .tail _ (.tail _ (.tail _ (.tail _ (.head _))))⟩
    · exact ⟨by omega, _, .tail _ (.tail _ (.tail _ (.head _)))⟩
    · exact ⟨by omega, _, .tail _ (.tail _ (.head _))⟩)
  have hoffD := off_one lt' gr (.head _) (by omega)
  have ltT : ∀ q ∈ l1' ++ l2, @LT.lt Nat _ q.1 f := fun q hq => (List.mem_append.mp hq).elim (fun h => ltc q h) (fun h => ltf q (List.mem_append_right _ (List.mem_append_right _ h)))
  have ltT := allLt_of ltT
  simp only [List.cons_append, List.nil_append] at ltf
  k_lt ltf
  clear F8 N8
  simp only [List.cons_append, List.nil_append] at N9
  have kpT : Kept (l1 ++ l2) (l1' ++ l2) := fun q hq => (List.mem_append.mp hq).elim (fun h => let ⟨o, ho⟩ := kp q h; ⟨o, List.mem_append_left _ ho⟩) (fun h => ⟨q.2, List.mem_append_right _ h⟩)
  generalize hTL' : l1' ++ l2 = TL' at N9 hoff ltT hoffD kpT
  try dsimp only
  try k_fold
  k_steps
  · rename Fr g' L' _ _ => F8
    rename News g' L' _ _ => N8
    rename _ = Data.cell (some (Value.ref f)) => dI
    refine Halt.mk ?_
    have hD := N8 _ (.tail _ (.head _))
    have hS' : ∀ b ∈ [_], g'.get? b = none ∧ b ≠ L' := fun b hb => by
      rw [List.mem_singleton.mp hb]
      exact ⟨hD.2.2, hD.2.1⟩
    have hI : InnerIs w 42 _ _ _ _ := ⟨_, _, _, _, _, _, _, _, _, _, _, _, _, _, _, _, _, _, _, _, _, _, by k_is⟩
    have hcF := (N8 _ (.head _)).1
    have hcA := (N8 _ (.tail _ (.tail _ (.tail _ (.tail _ (.head _)))))).1
    have hcI := (N8 _ (.tail _ (.tail _ (.tail _ (.head _))))).1
    have hcN := (N8 _ (.tail _ (.tail _ (.tail _ (.tail _ (.tail _ (.head _))))))).1
    have hcC := codeRec_news N8 (.tail _ (.tail _ (.tail _ (.tail _ (.tail _ (.tail _ (hTL' ▸ List.mem_append_left _ hc'))))))) hd hv
    k_dflt (refine' useM (news := []) (inner1_spec w f _ (L' + 1 + 1) (L' + 1 + 1 + 1) (L' + 1) c' N t2 _ _ _ hI dA dI dN hn hn2 6 a 0 (cntD a N) _ _ _ Z hq1 ?h2 (Nat.le_of_eq hlen.symm) (Nat.le_trans (Nat.le_of_eq hlen) hq1) (cntD_bits hn)) B' F8 X' News.nil (by simp) T' rfl ?kd ?ku hS' ⟨⟨hcF, hcA, hcI, hcN, hcC⟩, _, _, hD.1, hz⟩ ?_)
    (case h2 =>
      rename ((a : Nat) : Int) ≠ 0 => hne
      have := cntD_bits (a := a) hn
      rcases Nat.eq_zero_or_pos (cntD a N) with e | e
      · rw [e, Nat.mul_zero, Nat.pow_zero] at this; omega
      · exact e)
    (case kd => ktr_room)
    (case ku => ktr_units)
    intro r1 h1 tk1 F1 _ up1 out1
    refine hide ?_
    intro GG bk
    obtain ⟨rfl, ws1, kk1, hD1, hws1⟩ := out1
    refine bk ?_
    clear bk
    have N1 := News.swap (pre := [_]) N8 (fun q hq => by rw [List.mem_singleton.mp hq]; refine neN ?_; dsimp only; omega) (fun q hq => by
      simp only [List.mem_cons] at hq
      rcases hq with rfl | rfl | rfl | rfl | hq
      · refine neN ?_; dsimp only; omega
      · refine neN ?_; dsimp only; omega
      · refine neN ?_; dsimp only; omega
      · refine neN ?_; dsimp only; omega
      · exact hoffD q hq) up1 hD1
    rw [fillD_all hlen] at hws1
    clear up1 F8 N8 hcF hcA hcI hcN
    simp only [List.cons_append, List.nil_append] at N1
    try dsimp only
    try k_fold
    k_steps
    rename Fr g' _ _ _ => F7
    rename News g' L' _ _ => N7
    have NT' : News g' L' _ TL' := fun q hq => N7 q (.tail _ (.tail _ (.tail _ (.tail _ (.tail _ (.tail _ hq))))))
    have hDn := N7 _ (.tail _ (.head _))
    refine hret _ _ _ TL' (hTL' ▸ ⟨l1', l2, rfl, hl1', hl2⟩) (News.down FG' NT') (Grew.of hG NT') kpT (UpOff.of hG F7) ⟨_, _, _, rfl, fresh_of hG (fun hm => ?_) hDn.2.2, hDn.1, hws1⟩
    refine hide ?_
    intro GG bk
    obtain ⟨r, hr, e⟩ := List.mem_map.mp hm
    refine bk ?_
    clear bk
    have := lt' r hr
    rw [e] at this
    have this := ltN this
    omega
  · rename Fr g' _ _ _ => F7
    rename News g' L' _ _ => N7
    have NT' : News g' L' _ TL' := fun q hq => N7 q (.tail _ (.tail _ (.tail _ (.tail _ (.tail _ (.tail _ hq))))))
    have hDn := N7 _ (.tail _ (.head _))
    rename ((a : Nat) : Int) = 0 => h0
    have h0 : a = 0 := by omega
    subst h0
    have hc0 : cntD 0 N = 0 := Nat.div_eq_of_lt (by show 0 + N - 1 < N; omega)
    refine hret _ _ _ TL' (hTL' ▸ ⟨l1', l2, rfl, hl1', hl2⟩) (News.down FG' NT') (Grew.of hG NT') kpT (UpOff.of hG F7) ⟨_, _, _, rfl, fresh_of hG (fun hm => ?_) hDn.2.2, hDn.1, ?_⟩
    · refine hide ?_
      intro GG bk
      obtain ⟨r, hr, e⟩ := List.mem_map.mp hm
      refine bk ?_
      clear bk
      have := lt' r hr
      rw [e] at this
      have this := ltN this
      omega
    · rw [hc0] at hlen
      unfold digsOf
      rw [hc0]
      rw [List.eq_nil_of_length_eq_zero hlen] at hz
      exact hz
end
end
section
open PySem PySem.W PyProof.Rows PySem.Spec PySem.Calls
section
theorem top_off_F14 : True := by
  w_top off
  k_with_none
  trivial
theorem lines_F14_1 : True := by
  (k_with "mine subscriptTail Name Constant ref int" => (k_here; (with_reducible show wpAny _ _ (subscriptTail _ _ (Value.ref _) (Value.int _ _)) _ _ _); (with_unfolding_all refine' item_base ?k1_h ?k2_h ?k3_h ?k4_h ?k5_h ?_ ?k6_h; (case k1_h => k_asm); (case k2_h => assumption); (case k3_h => decide); (case k4_h => decide); (case k5_h => first | exact at3_0 | exact at3_1 | exact at3_2); (case k6_h => with_unfolding_all rfl); k_whole)))
  (k_with "mine call builtin:min" => (k_here; (with_reducible show wpAny _ _ (call (Value.builtin _) [Value.ref _]) _ _ _); k_dflt (refine' minLK ?k1_h ?k2_h ?k3_h ?k4_h ?_; (case k1_h => k_asm); (case k2_h => k_asm); (case k3_h => exact rfl); (case k4_h => assumption); k_whole); intro y_q h_q tk_q F_q N_q; (try dsimp only); (try k_sweep)))
  (k_with "mine call builtin:max" => (k_here; (with_reducible show wpAny _ _ (call (Value.builtin _) [Value.ref _]) _ _ _); k_dflt (refine' maxLK ?k1_h ?k2_h ?k3_h ?k4_h ?_; (case k1_h => k_asm); (case k2_h => k_asm); (case k3_h => exact rfl); (case k4_h => assumption); k_whole); intro y_q h_q tk_q F_q N_q; (try dsimp only); (try k_sweep)))
  (k_with "mine eval ListComp" => (k_here; refine Halt.out ?_))
  (k_with "mine exec Assign cons ListComp" => (k_here; refine Halt.out ?_))
  (k_with "mine pyIter ref" => (k_here; refine Halt.out ?_))
  (k_with "mine compareOp NotEq ref ref" => (k_here; k_dflt (refine' ke_ne_ints ?k1_h ?k2_h ?k3_h ?k4_h ?k5_h ?_; (case k1_h => (first | exact Heap.IsList.at (by assumption) (fun o e => Fr.keep (by assumption) _ o e) | exact listOf_is (News.get (by assumption) (by k_mem)))); (case k2_h => (first | exact Heap.IsList.at (by assumption) (fun o e => Fr.keep (by assumption) _ o e) | exact listOf_is (News.get (by assumption) (by k_mem)))); (case k3_h => (first | exact ints3 | exact IntsAre.nil | assumption)); (case k4_h => (first | exact ints3 | exact IntsAre.nil | assumption)); (case k5_h => ktr_units); k_whole)))
  (k_with "mine compareOp Eq ref ref" => (k_here; k_dflt (refine' ke_eq_ints ?k1_h ?k2_h ?k3_h ?k4_h ?k5_h ?_; (case k1_h => (first | exact Heap.IsList.at (by assumption) (fun o e => Fr.keep (by assumption) _ o e) | exact listOf_is (News.get (by assumption) (by k_mem)))); (case k2_h => (first | exact Heap.IsList.at (by assumption) (fun o e => Fr.keep (by assumption) _ o e) | exact listOf_is (News.get (by assumption) (by k_mem)))); (case k3_h => (first | exact ints3 | exact IntsAre.nil | assumption)); (case k4_h => (first | exact ints3 | exact IntsAre.nil | assumption)); (case k5_h => ktr_units); k_whole)))
  (k_with "mine eval Name" => (k_here; k_dflt (refine' nameX_FG ?F_h ?c_h ?v_h ?d_h ?_ ?a_h ?b_h; (case a_h => rfl); (case b_h => rfl); (case F_h => k_asm); (case c_h => rfl); (case v_h => assumption); (case d_h => assumption); k_whole)))
  (k_with "mine callWith ref" => (k_here; k_dflt (refine' callWith_F ?k1_h ?_; (case k1_h => exact fnAt_ground (by k_asm) (by assumption)); k_whole)))
  (k_with "mine FnAt" => (k_dflt (exact fnAt_ground (by k_asm) (by assumption))))
  (k_with "mine call ref" => (k_here; refine Halt.out ?_))
  (k_with "mine binaryOp RShift int int" => (k_here; with_reducible refine n_shr ?_; intro t_q tk_q))
  (k_with "mine binaryOp RShift int int" => (k_here; with_reducible refine n_mid ?_; intro t_q tk_q))
  (k_with "mine binaryOp LShift int int" => (k_here; with_reducible refine' n_shl ?k1_h ?k2_h ?_; (case k1_h => assumption); (case k2_h => assumption); intro t_q tk_q))
  (k_with "mine binaryOp Mult int int" => (k_here; with_reducible refine' n_subMul ?k1_h ?k2_h ?_; (case k1_h => omega); (case k2_h => omega); intro t_q tk_q))
  (k_with "mine binaryOp BitXor int int" => (k_here; with_reducible refine n_xor ?_; intro t_q tk_q))
  (k_with "mine binaryOp LShift int int" => (k_here; with_reducible refine' n_shl ?k1_h ?k2_h ?_; (case k1_h => assumption); (case k2_h => assumption); intro t_q tk_q))
  trivial
/-- the def that opens the def at f0 -/
def InnerFst (w : World) (f0 : Addr) (name : Str) (params : Arguments) (body : List Stmt) (scope : Scope) : Prop :=
  ∃ oc od osl nm ql pr ds rt tp ts bnd pos rest sc dV kV doc pm an cdv ct, (hd.heap_1 w.params).lookup f0 = some ⟨oc, od, .func (fnOf nm ql pr (.FunctionDef name params body ds rt tp scope ts bnd pos :: rest) sc dV kV doc pm an cdv ct), osl⟩
theorem getD_cast (ds : List Nat) (i : Nat) : (ds.map (Nat.cast : Nat → Int)).getD i 0 = ((ds.getD i 0 : Nat) : Int) := by
  simp only [List.getD_eq_getElem?_getD, List.getElem?_map]
  cases ds[i]? <;> rfl
theorem inner2_spec (w : World) (f l cD cI cN c' : Addr) (N : Nat) (tn : Tok) (oD oI oN : Obj) (ws : List Value) (ds : List Nat) {name : Str} {params : Arguments} {body : List Stmt} {scope : Scope} {doc pm ctv : Value} (hI : InnerFst w 49 name params body scope)
    (hoD : oD.data = .cell (some (.ref l))) (hoI : oI.data = .cell (some (.ref f))) (hoN : oN.data = .cell (some (.int ((N : Nat) : Int) tn))) (hN1 : 1 ≤ N) (hN2 : N ≤ 200) (hws : IntsAre ws (ds.map Nat.cast)) (hds : ∀ d ∈ ds, d < 2 ^ N) (hlen : ds.length ≤ 64) :
    ∀ (k : Nat) (Lo Hi : Nat) (tl th : Tok), Hi - Lo ≤ 2 ^ k → Lo < Hi → Hi ≤ ds.length →
      SpecS w (k + 1) (8 * (k + 1)) (.ref f) [.int ((Lo : Nat) : Int) tl, .int ((Hi : Nat) : Int) th]
        (fun h => Stands f cD cI cN c' oD oI oN (fnMade name qual2 params body scope [(Str.ofString "n", cN), (Str.ofString "inner", cI), (Str.ofString "digits", cD)] doc pm c' ctv) qual2 h ∧ h.IsList l ws.toArray)
        (fun _ r _ => ∃ t, r = .int ((ofSeg N ds Lo Hi : Nat) : Int) t) := by
  refine hide ?_
  intro GG bk
  obtain ⟨oc, od, osl, nm, ql, pr, ds', rt, tp, ts, bnd, pos, rest, sc, dV, kV, doc', pm', an, cdv, ct, hl⟩ := hI
  refine bk ?_
  clear bk
  refine' lit_of ?k1 hl ?_
  (case k1 => k_is)
  intro e
  cases e
  clear hl
  have hnl : (ds.map (Nat.cast : Nat → Int)).length = ds.length := List.length_map ..
  intro k
  induction k using Nat.strongRecOn with
  | ind k ih =>
    intro Lo Hi tl th hk1 hlo hhi
    unfold SpecS
    intro p lz mean mg mb dp un gd cn cs a' ccd cl outer A₀ base h₀ L m s Q E H hdp hu hok hret
    refine hide ?_
    intro GG bk
    obtain ⟨B, F, X, T, hk⟩ := H
    obtain ⟨⟨hf, hA, hI, hNn, hc⟩, hL⟩ := hok
    refine bk ?_
    clear bk
    have N0 : News h₀ L s.heap [] := News.nil
    ((refine wpAny_call ?_; k_dflt (refine' enterX ?k1 ?k2 ?k3 ?k4 ?k5 ?kA ?kF ?kK ?k6 ?k6b ?k7 ?k8 ?k9 ?kB ?_ ?c2 ?c3 ?c4 ?c5; (case kA => exact rfl); (case kF => exact rfl); (case kK => assumption); (case k1 => k_asm); (case k2 => k_asm); (case k3 => k_asm); (case k4 => assumption); (case k5 => k_asm); (case k6 => assumption); (case k6b => exact rfl); (case k7 => assumption); (case k8 => ktr_room); (case k9 => exact BindsTo.of_eq rfl); (case c5 => decide); (case kB => exact locs rfl); (case c2 => exact rfl); (case c3 => exact rfl); (case c4 => exact rfl); k_whole)))
    intro g' L' h' hG FG' F' N' B' X' T' lt'
    replace hG : Up s.heap g' := fun b o e => hG b o e (by simp)
    have gA := hG _ _ hA
    have gI := hG _ _ hI
    have gN := hG _ _ hNn
    have gF := hG _ _ hf
    have gC := hc.keeps hG
    have gL := hL.at fun o e => hG _ o e
    by_cases hleaf : Hi = Lo + 1
    · subst hleaf
      try dsimp only
      try k_fold
      k_steps
      · refine hret _ _ _ (fun b o e => Fr.keep (by assumption) b o (hG b o e)) ⟨_, congrArg (Value.int · _) ?_⟩
        rw [ofSeg_one (by omega), Int.toNat_natCast]
        exact getD_cast ds Lo
      · rename _ ≠ _ => hne
        exact (leaf_eq hne).elim
    · obtain ⟨k', rfl⟩ : ∃ k', k = k' + 1 := ⟨k - 1, by
        rcases Nat.eq_zero_or_pos k with h | h
        · rw [h] at hk1; omega
        · omega⟩
      have hk2 : Hi - Lo ≤ 2 * 2 ^ k' := by rw [Nat.pow_succ] at hk1; omega
      clear hk1
      have hS1 : ((Lo + Hi) / 2 - Lo) * N ≤ 12800 := Nat.le_trans (Nat.mul_le_mul (mid_64 hhi hlen) hN2) (by decide)
      have hB : ofSeg N ds ((Lo + Hi) / 2) Hi < 2 ^ 12800 := by
        refine Nat.lt_of_lt_of_le (ofSeg_lt hds hhi) (Nat.pow_le_pow_right (by decide) ?_)
        exact Nat.le_trans (Nat.mul_le_mul hN2 (seg_64 hhi hlen)) (by decide)
      have hB2 : 12800 + ((Lo + Hi) / 2 - Lo) * N ≤ 2 ^ 27 := Nat.le_trans (Nat.add_le_add_left hS1 _) (by decide)
      try dsimp only
      try k_fold
      k_steps
      · rename ((Lo : Nat) : Int) + 1 = _ => hne
        exact (leaf_ne hne hleaf).elim
      generalize hM : (Lo + Hi) / 2 = M at *
      obtain ⟨hM1, hM2⟩ := mid_lt hM hlo hleaf
      have hMk := mid_half hM hk2
      have hall := mid_all hM1 hM2 hhi
      rename Fr g' L' _ _ => F8
      rename News g' L' _ _ => N8
      refine Halt.mk ?_
      k_dflt (refine' useS (news := []) (ih k' (Nat.lt_succ_self _) M Hi _ _ hMk.2 hM2 hhi) B' F8 X' News.nil T' rfl ?kd ?ku ⟨⟨F8.keep _ _ gF, F8.keep _ _ gA, F8.keep _ _ gI, F8.keep _ _ gN, gC.keeps F8.keep⟩, gL.at fun o e => F8.keep _ o e⟩ ?_)
      (case kd => ktr_room); (case ku => ktr_units)
      intro r1 h1 tk1 F1 N1 up1 out1
      obtain ⟨u1, rfl⟩ := out1
      clear up1 F8 N8
      try dsimp only
      try k_fold
      k_steps
      rename Fr g' L' _ _ => F8
      rename News g' L' _ _ => N8
      refine Halt.mk ?_
      k_dflt (refine' useS (news := []) (ih k' (Nat.lt_succ_self _) Lo M _ _ hMk.1 hM1 (Nat.le_trans (Nat.le_of_lt hM2) hhi)) B' F8 X' News.nil T' rfl ?kd ?ku ⟨⟨F8.keep _ _ gF, F8.keep _ _ gA, F8.keep _ _ gI, F8.keep _ _ gN, gC.keeps F8.keep⟩, gL.at fun o e => F8.keep _ o e⟩ ?_)
      (case kd => ktr_room); (case ku => ktr_units)
      intro r2 h2 tk2 F2 N2 up2 out2
      obtain ⟨u2, rfl⟩ := out2
      clear up2 F8 N8
      try dsimp only
      try k_fold
      k_steps
      refine hret _ _ _ (fun b o e => Fr.keep (by assumption) b o (hG b o e)) ⟨_, congrArg (Value.int · _) ?_⟩
      rw [ofSeg_two (Lo := Lo) (M := M) (Hi := Hi) (Nat.le_of_lt hM1) (Nat.le_of_lt hM2) hhi, Int.natCast_add]
theorem lines_F14_2 : True := by
  (k_with "mine exec FunctionDef" => (k_here; refine Halt.out ?_))
  trivial
local macro_rules | `(tactic| k_all) => `(tactic| exact own_above (by assumption) (by omega))

local macro_rules | `(tactic| k_all) => `(tactic| exact own_above (by assumption) (by omega))
theorem lines_F14_3 : True := by
  (k_with "mine callWith ref" => (k_here; kn_here; k_dflt (first | (refine' callWith_F ?k1_h ?_; (case k1_h => exact FnAt.of (by k_asm) (by k_mem)); k_whole))))
  (k_with "mine FnAt" => (k_dflt (exact FnAt.of (by k_asm) (by k_mem))))
  (k_with "mine eval Name" => (k_here; k_dflt (refine' nameX_C ?N_h ?c_h ?m_h ?d_h ?_ ?a_h ?b_h; (case a_h => rfl); (case b_h => rfl); (case N_h => k_asm); (case c_h => rfl); (case m_h => k_mem); (case d_h => k_asm); k_whole)))
  trivial
theorem d2i_spec (w : World) (l : Addr) (N : Nat) (t2 : Tok) (ws : List Value) (ds : List Nat) : SpecT w 10 100 (.ref 49) [.ref l, .int ((N : Nat) : Int) t2]
    (fun h => 1 ≤ N ∧ N ≤ 200 ∧ h.IsList l ws.toArray ∧ IntsAre ws (ds.map Nat.cast) ∧ (∀ d ∈ ds, d < 2 ^ N) ∧ ds.length ≤ 64) (fun _ r _ => ∃ t, r = .int ((ofD N ds : Nat) : Int) t) := by
  unfold SpecT
  intro p lz mean mg mb dp un gd cn cs a' ccd cl outer A₀ base h₀ L m s Q E TL H hT NT hdp hu hok hret
  refine hide ?_
  intro GG bk
  obtain ⟨B, F, X, T, hk⟩ := H
  refine bk ?_
  clear bk
  have C1 := head2 X
  refine hide ?_
  intro GG bk
  obtain ⟨hn, hn2, hL, hws, hds, hlen⟩ := hok
  refine bk ?_
  clear bk
  have hLn : l ∉ TL.map (·.1) := fun hm => by
    refine hide ?_
    intro GG bk
    obtain ⟨q, hq, e⟩ := List.mem_map.mp hm
    obtain ⟨vs, hvs⟩ := hT.off q hq
    obtain ⟨o, ho, _, n9, hd⟩ := hL
    refine bk ?_
    clear bk
    have := (NT q hq).1
    rw [e, ho] at this
    rw [← Option.some.inj this, hd] at hvs
    cases hvs
  ((refine wpAny_call ?_; k_dflt (refine' enterC ?k1 ?k2 ?k3 ?k4 ?k5 ?kA ?kF ?kK ?k6 ?k7 ?k8 ?k9 ?kB ?kD ?_ ?c2 ?c3 ?c4; (case kA => exact rfl); (case kF => exact rfl); (case kK => assumption); (case k1 => k_asm); (case k2 => k_asm); (case k3 => k_asm); (case k4 => assumption); (case k5 => k_asm); (case k6 => k_is); (case k7 => k_is); (case k8 => ktr_room); (case k9 => exact BindsTo.of_eq rfl); (case kB => exact rfl); (case kD => decide +kernel); (case c2 => exact rfl); (case c3 => exact rfl); (case c4 => exact rfl); k_whole)))
  intro g' L' h' tk' cells' hG _ FG' F' N' Y' B' X' T' lt'
  k_cells Y'
  try simp only [List.cons_append, List.nil_append] at N'
  have C1' := head2 X'
  have gL := hL.at fun o e => hG _ o e hLn
  rename _ = Data.cell (bindC _ _ _ (Str.ofString "n")) => dN
  have dN : _ = Data.cell (some (.int ((N : Nat) : Int) t2)) := dN
  rename _ = Data.cell (bindC _ _ _ (Str.ofString "digits")) => dA
  have dA : _ = Data.cell (some (.ref l)) := dA
  try dsimp only
  try k_fold
  k_steps
  rename Fr g' L' _ _ => F8
  rename News g' L' _ _ => N8
  refine hide ?_
  intro GG bk
  obtain ⟨l1, l2, rfl, hl1, hl2⟩ := hT
  refine bk ?_
  clear bk
  have h44 : @LT.lt Nat _ 44 L' := by
    obtain ⟨o, ho⟩ := hl2.has
    exact lt' _ (List.mem_append_right _ ho)
  have h2 : ∀ q ∈ l1, q.1 ≠ 44 := hl1.noTab (by decide) hl2 NT
  have lt2 : ∀ p : Addr × Obj, p ∈ l2 ++ l1 → @LT.lt Nat _ p.1 L' := fun p hp => lt' p (by simp only [List.mem_append] at hp ⊢; exact hp.symm)
  have N8 : News g' L' h' ([_, _, _] ++ (l2 ++ l1)) := fun q hq => N8 q (by
    simp only [List.cons_append, List.nil_append, List.mem_cons, List.mem_append] at hq ⊢
    rcases hq with hq | hq | hq | hq | hq
    · exact .inl hq
    · exact .inr (.inl hq)
    · exact .inr (.inr (.inl hq))
    · exact .inr (.inr (.inr (.inr hq)))
    · exact .inr (.inr (.inr (.inl hq))))
  refine Halt.mk (nestDef_K rfl rfl rfl ?_)
  refine nestLed (news := [_, _, _]) F8 N8 T' C1' rfl hl2 ?hn h2 rfl ?_
  · intro q hq
    simp only [List.mem_cons, List.not_mem_nil, or_false] at hq
    rcases hq with rfl | rfl | rfl <;> (refine neN ?_; dsimp only; omega)
  intro f c' oc vs t ctv doc h9 tk9 l2' hl2' hc' hd hv F9 N9 ltf gr ltc kp
  have hoff : OwnOff (l2' ++ l1) [L' + 1, L' + 1 + 1, L' + 1 + 1 + 1] := off_cells lt2 gr (fun b hb => by
    simp only [List.mem_cons, List.not_mem_nil, or_false] at hb
    rcases hb with rfl | rfl | rfl
    · exact ⟨by omega, _, .tail _ (.tail _ (.head _))⟩
    · exact ⟨by omega, _, .tail _ (.head _)⟩
    · exact ⟨by omega, _, .head _⟩)
  have ltT : ∀ q ∈ l2' ++ l1, @LT.lt Nat _ q.1 f := fun q hq => (List.mem_append.mp hq).elim (fun h => ltc q h) (fun h => ltf q (List.mem_append_right _ (List.mem_append_right _ h)))
  have ltT := allLt_of ltT
  simp only [List.cons_append, List.nil_append] at ltf
  k_lt ltf
  clear F8 N8
  simp only [List.cons_append, List.nil_append] at N9
  generalize hTL' : l2' ++ l1 = TL' at N9 hoff ltT
  have kpT : Kept (l1 ++ l2) (l1 ++ l2') := fun q hq => (List.mem_append.mp hq).elim (fun h => ⟨q.2, List.mem_append_left _ h⟩) (fun h => let ⟨o, ho⟩ := kp q h; ⟨o, List.mem_append_right _ ho⟩)
  have hTab : TabLeds (l1 ++ l2') := ⟨l1, l2', rfl, hl1, hl2'⟩
  have hsub : ∀ q, q ∈ l1 ++ l2' → q ∈ TL' := fun q hq => by
    rw [← hTL']
    simp only [List.mem_append] at hq ⊢
    exact hq.symm
  have hdl : (ds.map (Nat.cast : Nat → Int)).length ≤ 64 := by rw [List.length_map]; exact hlen
  try dsimp only
  try k_fold
  k_steps
  · rename Fr g' L' _ _ => F8
    rename News g' L' _ _ => N8
    rename _ = Data.cell (some (Value.ref f)) => dI
    rename 0 < (List.map _ ds).length => hpos
    refine Halt.mk ?_
    have hI : InnerFst w 49 _ _ _ _ := ⟨_, _, _, _, _, _, _, _, _, _, _, _, _, _, _, _, _, _, _, _, _, by k_is⟩
    have hcF := (N8 _ (.head _)).1
    have hcI := (N8 _ (.tail _ (.head _))).1
    have hcN := (N8 _ (.tail _ (.tail _ (.head _)))).1
    have hcA := (N8 _ (.tail _ (.tail _ (.tail _ (.head _))))).1
    have hcC := codeRec_news N8 (.tail _ (.tail _ (.tail _ (.tail _ (hTL' ▸ List.mem_append_left _ hc'))))) hd hv
    k_dflt (refine' useS (inner2_spec w f l (L' + 1) (L' + 1 + 1 + 1) (L' + 1 + 1) c' N t2 _ _ _ ws ds hI dA dI dN hn hn2 hws hds hlen 6 0 (ds.map (Nat.cast : Nat → Int)).length _ _ hdl hpos (Nat.le_of_eq (List.length_map ..))) B' F8 X' N8 T' rfl ?kd ?ku ⟨⟨hcF, hcA, hcI, hcN, hcC⟩, gL.at fun o e => F8.keep _ o e⟩ ?_)
    (case kd => ktr_room)
    (case ku => ktr_units)
    intro r1 h1 tk1 F1 N1 up1 out1
    obtain ⟨u1, rfl⟩ := out1
    clear up1 F8 N8 hcF hcA hcI hcN
    try dsimp only
    try k_fold
    k_steps
    rename Fr g' _ _ _ => F7
    rename News g' L' _ _ => N7
    have NT' : News g' L' _ (l1 ++ l2') := fun q hq => N7 q (.tail _ (.tail _ (.tail _ (.tail _ (hsub q hq)))))
    refine hret _ _ _ _ hTab (News.down FG' NT') (Grew.of hG NT') kpT (UpOff.of hG F7) ⟨_, congrArg (Value.int · _) ?_⟩
    rw [List.length_map, ofSeg_all]
  · rename Fr g' _ _ _ => F7
    rename News g' L' _ _ => N7
    rename ¬ 0 < (List.map _ ds).length => hpos
    have NT' : News g' L' _ (l1 ++ l2') := fun q hq => N7 q (.tail _ (.tail _ (.tail _ (.tail _ (hsub q hq)))))
    refine hret _ _ _ _ hTab (News.down FG' NT') (Grew.of hG NT') kpT (UpOff.of hG F7) ⟨_, congrArg (Value.int · _) ?_⟩
    have : ds = [] := List.eq_nil_of_length_eq_zero (by rw [List.length_map] at hpos; omega)
    rw [this]
    rfl
end
end
section
open PySem PySem.W PyProof.Rows PySem.Spec PySem.Calls
section
section
variable {prog : Program} {w : World} {A : Around} {E : Value → Shared → Prop} {s : Shared} {env : Env} {h₀ : Heap} {x : Str} {body : List Stmt} {Q : Flow → Shared → Prop}
/-- a loop whose iterator walks a list of the ledger -/
theorem forMade {I l : Addr} {n : Nat} {P : Nat → Value → Prop} {St : Nat → Heap → Prop} {m₀ : Str → Option Value} {nw₀ rest : List (Addr × Obj)} {oI ol : Obj} (W : Walks prog w A I [I, l] [I] n P St)
    (hal : ∀ i h, St i h → (∃ o, h.get? I = some o) ∧ ∃ o, h.get? l = some o) (hst : St 0 s.heap) (F : Fr h₀ env.locals s.heap m₀) (N : News h₀ env.locals s.heap ((I, oI) :: (l, ol) :: (nw₀ ++ rest))) (hI : ∀ q ∈ nw₀, q.1 ≠ I) (hl : ∀ q ∈ nw₀, q.1 ≠ l)
    (J : Nat → (Str → Option Value) → List (Addr × Obj) → Prop) (h0 : J 0 m₀ nw₀)
    (turn : ∀ i v m₁ nw h tk T, i < n → P i v → J i m₁ nw → Fr h₀ env.locals h (fun y => if y = x then some v else m₁ y) → News h₀ env.locals h (nw ++ T) → Apart nw T →
      wpAny (model prog w) A (execs body env) (LoopEnd h₀ env.locals (J (i + 1)) T { s with heap := h, toks := tk } Q) E { s with heap := h, toks := tk })
    (done : ∀ m₁ nw h tk, J n m₁ nw → Fr h₀ env.locals h m₁ → News h₀ env.locals h nw → Q .next { s with heap := h, toks := tk }) :
    LoopAtV prog w A h₀ env x body Q E (.ref I) s := by
  have nI := N (I, oI) (List.mem_cons_self ..)
  have nl := N (l, ol) (List.mem_cons_of_mem _ (List.mem_cons_self ..))
  have N₀ : News h₀ env.locals s.heap nw₀ := fun q hq => N q (List.mem_cons_of_mem _ (List.mem_cons_of_mem _ (List.mem_append_left _ hq)))
  refine forWalks (J := fun i m nw => J i m nw ∧ ∀ p ∈ nw, p.1 ∉ [I, l]) W ?_ ?_ ?_ ?_ (fun _ _ _ j => j.2) hst F N₀ ⟨h0, ?_⟩ ?_ ?_
  · simp only [List.mem_cons, List.not_mem_nil, or_false, not_or]
    exact ⟨nI.2.1.symm, nl.2.1.symm⟩
  · intro b hb; rw [List.mem_singleton.mp hb]; exact nI.2.2
  · intro i h st b hb; rw [List.mem_singleton.mp hb]; exact (hal i h st).1
  · intro b hb
    rcases List.mem_cons.mp hb with rfl | hb
    · exact .inl (List.mem_singleton.mpr rfl)
    · rw [List.mem_singleton.mp hb]; exact .inr (.inr fun i h st => (hal i h st).2)
  · intro p hp
    simp only [List.mem_cons, List.not_mem_nil, or_false, not_or]
    exact ⟨hI p hp, hl p hp⟩
  · rintro i v m₁ nw h tk T hi hP ⟨j, _⟩ F₁ N₁ ap hT st
    refine wpAny_mono (turn i v m₁ nw h tk T hi hP j F₁ N₁ ap) (fun f s₂ r => ?_) fun _ _ e => e
    obtain ⟨oI', hTI⟩ := hT I (List.mem_cons_self ..) nI.2.2
    obtain ⟨ol', hTl⟩ := hT l (List.mem_cons_of_mem _ (List.mem_cons_self ..)) nl.2.2
    have fin : (∃ h' tk' m' nw', s₂ = { ({ s with heap := h, toks := tk } : Shared) with heap := h', toks := tk' } ∧ Fr h₀ env.locals h' m' ∧ News h₀ env.locals h' (nw' ++ T) ∧ Apart nw' T ∧ J (i + 1) m' nw') →
        ∃ h' tk' m' nw', s₂ = { ({ s with heap := h, toks := tk } : Shared) with heap := h', toks := tk' } ∧ Fr h₀ env.locals h' m' ∧ News h₀ env.locals h' (nw' ++ T) ∧ Apart nw' T ∧ J (i + 1) m' nw' ∧ ∀ p ∈ nw', p.1 ∉ [I, l] := by
      rintro ⟨h', tk', m', nw', e, F', N', ap', j'⟩
      refine ⟨h', tk', m', nw', e, F', N', ap', j', fun p hp => ?_⟩
      simp only [List.mem_cons, List.not_mem_nil, or_false, not_or]
      exact ⟨ap' p hp _ hTI, ap' p hp _ hTl⟩
    cases f with
    | ret v => exact r
    | brk => exact r
    | next => exact fin r
    | cont => exact fin r
  · rintro m₁ nw h tk ⟨j, _⟩ F₁ N₁
    exact done m₁ nw h tk j F₁ N₁
theorem forRev {I l : Addr} {items : Array Value} {k : Nat} {m₀ : Str → Option Value} {nw₀ rest : List (Addr × Obj)} {c : Int} (hh : A.handled = none) (hc : c = (items.size : Int) - 1) (F : Fr h₀ env.locals s.heap m₀) (N : News h₀ env.locals s.heap ((I, revObj l c) :: (l, W.listOf items k) :: (nw₀ ++ rest)))
    (hIl : l ≠ I) (hI : ∀ q ∈ nw₀, q.1 ≠ I) (hl : ∀ q ∈ nw₀, q.1 ≠ l)
    (J : Nat → (Str → Option Value) → List (Addr × Obj) → Prop) (h0 : J 0 m₀ nw₀)
    (turn : ∀ i v m₁ nw h tk T, i < items.size → items[items.size - 1 - i]? = some v → J i m₁ nw → Fr h₀ env.locals h (fun y => if y = x then some v else m₁ y) → News h₀ env.locals h (nw ++ T) → Apart nw T →
      wpAny (model prog w) A (execs body env) (LoopEnd h₀ env.locals (J (i + 1)) T { s with heap := h, toks := tk } Q) E { s with heap := h, toks := tk })
    (done : ∀ m₁ nw h tk, J items.size m₁ nw → Fr h₀ env.locals h m₁ → News h₀ env.locals h nw → Q .next { s with heap := h, toks := tk }) :
    wpAny (model prog w) A (pyIter (.ref I)) (fun it s₂ => LoopAtV prog w A h₀ env x body Q E it s₂) E s := by
  have nI := N (I, revObj l c) (List.mem_cons_self ..)
  have nl := N (l, W.listOf items k) (List.mem_cons_of_mem _ (List.mem_cons_self ..))
  have hit : s.heap.IsRevIter I l c := ⟨_, nI.1, rfl, rfl⟩
  refine wpAny_pyIter_revIter hit ?_
  subst hc
  refine forMade (Walks.listRev hh I l hIl items) (fun i h st => ⟨?_, ?_⟩) ⟨Nat.zero_le _, by simpa using hit, ⟨_, nl.1, rfl, _, rfl⟩⟩ F N hI hl J h0 turn done
  · obtain ⟨o, e, _⟩ := st.2.1; exact ⟨o, e⟩
  · obtain ⟨o, e, _⟩ := st.2.2; exact ⟨o, e⟩
end
end
end
section
open PySem PySem.W PyProof.Rows PySem.Spec PySem.Calls
section
theorem top_off_F15 : True := by
  w_top off
  k_with_none
  trivial
theorem lines_F15_1 : True := by
  (k_with "mine subscriptTail Name Constant ref int" => (k_here; (with_reducible show wpAny _ _ (subscriptTail _ _ (Value.ref _) (Value.int _ _)) _ _ _); (with_unfolding_all refine' item_base ?k1_h ?k2_h ?k3_h ?k4_h ?k5_h ?_ ?k6_h; (case k1_h => k_asm); (case k2_h => assumption); (case k3_h => decide); (case k4_h => decide); (case k5_h => first | exact at3_0 | exact at3_1 | exact at3_2); (case k6_h => with_unfolding_all rfl); k_whole)))
  (k_with "mine call builtin:min" => (k_here; (with_reducible show wpAny _ _ (call (Value.builtin _) [Value.ref _]) _ _ _); k_dflt (refine' minLK ?k1_h ?k2_h ?k3_h ?k4_h ?_; (case k1_h => k_asm); (case k2_h => k_asm); (case k3_h => exact rfl); (case k4_h => assumption); k_whole); intro y_q h_q tk_q F_q N_q; (try dsimp only); (try k_sweep)))
  (k_with "mine call builtin:max" => (k_here; (with_reducible show wpAny _ _ (call (Value.builtin _) [Value.ref _]) _ _ _); k_dflt (refine' maxLK ?k1_h ?k2_h ?k3_h ?k4_h ?_; (case k1_h => k_asm); (case k2_h => k_asm); (case k3_h => exact rfl); (case k4_h => assumption); k_whole); intro y_q h_q tk_q F_q N_q; (try dsimp only); (try k_sweep)))
  (k_with "mine eval ListComp" => (k_here; refine Halt.out ?_))
  (k_with "mine exec Assign cons ListComp" => (k_here; refine Halt.out ?_))
  (k_with "mine pyIter ref" => (k_here; refine Halt.out ?_))
  (k_with "mine compareOp NotEq ref ref" => (k_here; k_dflt (refine' ke_ne_ints ?k1_h ?k2_h ?k3_h ?k4_h ?k5_h ?_; (case k1_h => (first | exact Heap.IsList.at (by assumption) (fun o e => Fr.keep (by assumption) _ o e) | exact listOf_is (News.get (by assumption) (by k_mem)))); (case k2_h => (first | exact Heap.IsList.at (by assumption) (fun o e => Fr.keep (by assumption) _ o e) | exact listOf_is (News.get (by assumption) (by k_mem)))); (case k3_h => (first | exact ints3 | exact IntsAre.nil | assumption)); (case k4_h => (first | exact ints3 | exact IntsAre.nil | assumption)); (case k5_h => ktr_units); k_whole)))
  (k_with "mine compareOp Eq ref ref" => (k_here; k_dflt (refine' ke_eq_ints ?k1_h ?k2_h ?k3_h ?k4_h ?k5_h ?_; (case k1_h => (first | exact Heap.IsList.at (by assumption) (fun o e => Fr.keep (by assumption) _ o e) | exact listOf_is (News.get (by assumption) (by k_mem)))); (case k2_h => (first | exact Heap.IsList.at (by assumption) (fun o e => Fr.keep (by assumption) _ o e) | exact listOf_is (News.get (by assumption) (by k_mem)))); (case k3_h => (first | exact ints3 | exact IntsAre.nil | assumption)); (case k4_h => (first | exact ints3 | exact IntsAre.nil | assumption)); (case k5_h => ktr_units); k_whole)))
  trivial
section
variable {prog : Program} {w : World} {A : Around} {E : Value → Shared → Prop} {s : Shared} {t u : Tok} {Q : Value → Shared → Prop} {h₀ : Heap} {L : Addr} {m : Str → Option Value} {news : List (Addr × Obj)}
theorem n_divmod {a b : Nat} (F : Fr h₀ L s.heap m) (N : News h₀ L s.heap news) (hb : 1 ≤ b) (hb2 : b < 2 ^ 3000)
    (h : ∀ (D : Nat) h' tk t' u', Fr h₀ L h' m → News h₀ L h' ((D, tup [.int ((a / b : Nat) : Int) t', .int ((a % b : Nat) : Int) u']) :: news) → (∀ q ∈ news, @LT.lt Nat _ q.1 D) → Q (.ref D) { s with heap := h', toks := tk }) :
    wpAny (model prog w) A (call (.builtin "divmod") [.int ((a : Nat) : Int) t, .int ((b : Nat) : Int) u]) Q E s := by
  refine divmod_N F N (by omega) (fun h' F' N' => ?_) (Or.inl (PyProof.noPylong_of_log2 ?_))
  · have e1 : Int.fdiv ((a : Nat) : Int) ((b : Nat) : Int) = ((a / b : Nat) : Int) := by
      rw [Int.fdiv_eq_ediv_of_nonneg _ (Int.natCast_nonneg _), Int.natCast_ediv]
    have e2 : Int.fmod ((a : Nat) : Int) ((b : Nat) : Int) = ((a % b : Nat) : Int) := by
      rw [Int.fmod_eq_emod_of_nonneg _ (Int.natCast_nonneg _), Int.natCast_emod]
    rw [e1, e2] at N'
    exact h _ _ _ _ _ F' N' fun q hq => Heap.lt_size (N q hq).1
  · rw [Int.natAbs_natCast]
    have := (Nat.log2_lt (n := b) (k := 3000) (by omega)).mpr hb2
    omega
end
theorem lines_F15_2 : True := by
  (k_with "mine call builtin:divmod" => (k_here; (with_reducible show wpAny _ _ (call (Value.builtin _) [Value.int _ _, Value.int _ _]) _ _ _); k_dflt (refine' n_divmod ?k1_h ?k2_h ?k3_h ?k4_h ?_; (case k1_h => k_asm); (case k2_h => k_asm); (case k3_h => assumption); (case k4_h => assumption); k_whole); intro D_q h_q tk_q t_q u_q F_q N_q l1_q; (try k_lt l1_q); (try k_sweep)))
  trivial
def DmOut (a b : Nat) (h : Heap) (r : Value) (h' : Heap) : Prop := ∃ t u1 u2, r = .ref t ∧ h.get? t = none ∧ h'.get? t = some (tup [.int ((a / b : Nat) : Int) u1, .int ((a % b : Nat) : Int) u2])
theorem DmOut.mk {a b x y : Nat} {h h' : Heap} {t : Addr} {u1 u2 : Tok} (hx : x = a / b) (hy : y = a % b) (hf : h.get? t = none) (ho : h'.get? t = some (tup [.int ((x : Nat) : Int) u1, .int ((y : Nat) : Int) u2])) : DmOut a b h (.ref t) h' := by
  subst hx hy
  exact ⟨t, u1, u2, rfl, hf, ho⟩
theorem div2_spec (w : World) (a b n : Nat) (t1 t2 t3 : Tok) : SpecS w 1 20 (.ref 28) [.int ((a : Nat) : Int) t1, .int ((b : Nat) : Int) t2, .int ((n : Nat) : Int) t3] (fun _ => a < 2 ^ 3000 ∧ 1 ≤ b ∧ b < 2 ^ 3000) (DmOut a b) := by
  unfold SpecS
  intro p lz mean mg mb dp un gd cn cs a' ccd cl outer A₀ base h₀ L m s Q E H hdp hu hok hret
  refine hide ?_
  intro GG bk
  obtain ⟨B, F, X, T, hk⟩ := H
  refine bk ?_
  clear bk
  ((refine wpAny_call ?_; k_dflt (refine' enterS ?k1 ?k2 ?k3 ?k5 ?kA ?kF ?kK ?k6 ?k7 ?k8 ?k9 ?kB ?_ ?c2 ?c3 ?c4 ?c5; (case kA => exact rfl); (case kF => exact rfl); (case kK => assumption); (case k1 => k_asm); (case k2 => k_asm); (case k3 => k_asm); (case k5 => k_asm); (case k6 => k_is); (case k7 => k_is); (case k8 => ktr_room); (case k9 => exact BindsTo.of_eq rfl); (case c5 => decide); (case kB => exact locs rfl); (case c2 => exact rfl); (case c3 => exact rfl); (case c4 => exact rfl); k_whole)))
  intro g' L' h' hG FG' F' N' B' X' T'
  refine hide ?_
  intro GG bk
  obtain ⟨ha, hb, hb2⟩ := hok
  refine bk ?_
  clear bk
  have hbits : Builtin.Int.intBits ((a : Nat) : Int) ≤ 3000 := PySem.intBits_le_iff.mpr (by simpa using ha)
  try dsimp only
  try k_fold
  k_steps
  rename Fr g' _ _ _ => F7
  rename News g' L' _ _ => N7
  have n1 := N7 _ (.head _)
  exact hret _ _ _ (fun b o e => F7.keep b o (hG b o e)) ⟨_, _, _, rfl, fresh_up hG n1.2.2, n1.1⟩
theorem lines_F15_3 : True := by
  (k_with "mine call ref" => (k_here; refine Halt.out ?_))
  trivial
section
variable {prog : Program} {w : World} {A : Around} {E : Value → Shared → Prop} {s : Shared} {t u : Tok} {Q : Value → Shared → Prop}
theorem n_add {a b : Nat} (h : ∀ t' tk, Q (.int ((a + b : Nat) : Int) t') { s with toks := tk }) : wpAny (model prog w) A (binaryOp .Add (.int ((a : Nat) : Int) t) (.int ((b : Nat) : Int) u)) Q E s := by
  refine add_int ?_
  rw [← Int.natCast_add]
  exact h _ _
end
theorem lines_F15_4 : True := by
  (k_with "mine binaryOp Add int int" => (k_here; with_reducible refine n_add ?_; intro t_q tk_q))
  (k_with "mine binaryOp LShift int int" => (k_here; with_reducible refine' n_shl ?k1_h ?k2_h ?_; (case k1_h => assumption); (case k2_h => assumption); intro t_q tk_q))
  trivial
abbrev dmM (u v : Option Value) (r : Value) (m₀ : Str → Option Value) : Str → Option Value := fun y => if y = Str.ofString "a_digit" then u else if y = Str.ofString "q_digit" then v else if y = Str.ofString "r" then some r else m₀ y
theorem dmM_ext {f m₀ : Str → Option Value} {r : Value} (h1 : f (Str.ofString "r") = some r) (hr : ∀ y, y ≠ Str.ofString "a_digit" → y ≠ Str.ofString "q_digit" → y ≠ Str.ofString "r" → f y = m₀ y) :
    f = dmM (f (Str.ofString "a_digit")) (f (Str.ofString "q_digit")) r m₀ := by
  funext y
  unfold dmM
  by_cases e1 : y = Str.ofString "a_digit"
  · rw [if_pos e1, e1]
  rw [if_neg e1]
  by_cases e2 : y = Str.ofString "q_digit"
  · rw [if_pos e2, e2]
  rw [if_neg e2]
  by_cases e3 : y = Str.ofString "r"
  · rw [if_pos e3, e3, h1]
  rw [if_neg e3]
  exact hr y e1 e2 e3
/-- between the turns of the long division -/
def Jdm (m₀ : Str → Option Value) (a b N c : Nat) (q : Addr) (TL : List (Addr × Obj)) (i : Nat) (m₁ : Str → Option Value) (nw : List (Addr × Obj)) : Prop :=
  ∃ (t : Tok) (ws : List Value) (k : Nat) (qs : List Nat), m₁ (Str.ofString "r") = some (.int ((a / 2 ^ (N * (c - i)) % b : Nat) : Int) t) ∧ (∀ y, y ≠ Str.ofString "a_digit" → y ≠ Str.ofString "q_digit" → y ≠ Str.ofString "r" → m₁ y = m₀ y) ∧
    nw = (q, W.listOf (List.toArray ws) k) :: TL ∧ IntsAre ws (qs.map Nat.cast) ∧ qs.length = i ∧ (∀ d ∈ qs, d < 2 ^ N) ∧ ofD N qs.reverse = a / 2 ^ (N * (c - i)) / b
theorem Jdm.zero {m₀ : Str → Option Value} {a b N c : Nat} {q : Addr} {TL : List (Addr × Obj)} {t : Tok} {k : Nat} (h : m₀ (Str.ofString "r") = some (.int 0 t)) (hz : a < 2 ^ (N * c)) : Jdm m₀ a b N c q TL 0 m₀ ((q, W.listOf #[] k) :: TL) := by
  have e : a / 2 ^ (N * (c - 0)) = 0 := Nat.div_eq_of_lt (by rw [Nat.sub_zero]; exact hz)
  refine ⟨t, [], k, [], ?_, fun _ _ _ _ => rfl, rfl, .nil, rfl, by simp, ?_⟩
  · rw [e, Nat.zero_mod]; exact h
  · rw [e, Nat.zero_div]; rfl
theorem digs_at (N : Nat) : ∀ (m i x : Nat), i < m → (digs N m x)[i]? = some ((x / 2 ^ (N * i) % 2 ^ N : Nat) : Int)
  | 0, _, _, h => absurd h (Nat.not_lt_zero _)
  | m + 1, 0, x, _ => by simp [digs]
  | m + 1, i + 1, x, h => by
    rw [digs, List.getElem?_cons_succ, digs_at N m i _ (by omega), Nat.div_div_eq_div_mul, ← Nat.pow_add, Nat.mul_succ, Nat.add_comm N]
theorem top_step (a N j : Nat) : a / 2 ^ (N * j) = a / 2 ^ (N * (j + 1)) * 2 ^ N + a / 2 ^ (N * j) % 2 ^ N := by
  have h := Nat.div_add_mod (a / 2 ^ (N * j)) (2 ^ N)
  rw [Nat.div_div_eq_div_mul, ← Nat.pow_add, ← Nat.mul_succ, Nat.mul_comm (2 ^ N)] at h
  exact h.symm
theorem div_step {A b B d : Nat} (hb : 0 < b) : (A * B + d) / b = A / b * B + (A % b * B + d) / b := by
  have h := Nat.div_add_mod A b
  have e : A * B + d = b * (A / b * B) + (A % b * B + d) := by
    conv => lhs; rw [← h]
    rw [Nat.add_mul, Nat.mul_assoc, Nat.add_assoc]
  rw [e, Nat.mul_add_div hb]
theorem mod_step {A b B d : Nat} : (A % b * B + d) % b = (A * B + d) % b := by
  rw [Nat.add_mod, Nat.mul_mod, Nat.mod_mod, ← Nat.mul_mod, ← Nat.add_mod]
theorem intsAre_append {us vs : List Value} {ms ns : List Int} (h : IntsAre us ms) (h' : IntsAre vs ns) : IntsAre (us ++ vs) (ms ++ ns) := by
  induction h with
  | nil => exact h'
  | cons n t _ ih => exact .cons n t ih
theorem Jdm.next {g h' : Heap} {L : Addr} {m₀ m' : Str → Option Value} {a b N c i k' x : Nat} {q : Addr} {TL T all : List (Addr × Obj)} {ws : List Value} {qs : List Nat} {t u : Tok} {o : Obj} {s₁ : Shared} {Q : Flow → Shared → Prop} {tk : Nat}
    (F : Fr g L h' m') (N' : News g L h' all) (hN : ∀ p, p ∈ (q, W.listOf (ws.toArray.push (.int ((x / b : Nat) : Int) u)) k') :: (TL ++ T) → p ∈ all) (ap : Apart ((q, o) :: TL) T)
    (e1 : m' (Str.ofString "r") = some (.int ((x % b : Nat) : Int) t)) (hr : ∀ y, y ≠ Str.ofString "a_digit" → y ≠ Str.ofString "q_digit" → y ≠ Str.ofString "r" → m' y = m₀ y) (hI : IntsAre ws (qs.map Nat.cast)) (hql : qs.length = i) (hqlt : ∀ d ∈ qs, d < 2 ^ N)
    (hq : ofD N qs.reverse = a / 2 ^ (N * (c - i)) / b) (hi : i < c) (hb : 0 < b) (hx : x = a / 2 ^ (N * (c - i)) % b * 2 ^ N + a / 2 ^ (N * (c - 1 - i)) % 2 ^ N) :
    LoopEnd g L (Jdm m₀ a b N c q TL (i + 1)) T s₁ Q .next { s₁ with heap := h', toks := tk } := by
  have hc : c - i = (c - 1 - i) + 1 := by omega
  have hc2 : c - (i + 1) = c - 1 - i := by omega
  have hts := top_step a N (c - 1 - i)
  rw [← hc] at hts
  have hmod : a / 2 ^ (N * (c - (i + 1))) % b = x % b := by rw [hc2, hx, mod_step, ← hts]
  have hdiv : a / 2 ^ (N * (c - (i + 1))) / b = a / 2 ^ (N * (c - i)) / b * 2 ^ N + x / b := by
    rw [hc2, hx, ← div_step hb, ← hts]
  have hlt : x / b < 2 ^ N := by
    refine Nat.div_lt_of_lt_mul ?_
    have h1 : a / 2 ^ (N * (c - i)) % b < b := Nat.mod_lt _ hb
    have h2 : a / 2 ^ (N * (c - 1 - i)) % 2 ^ N < 2 ^ N := Nat.mod_lt _ (Nat.two_pow_pos _)
    have h3 : (a / 2 ^ (N * (c - i)) % b + 1) * 2 ^ N ≤ b * 2 ^ N := Nat.mul_le_mul_right _ h1
    rw [Nat.succ_mul] at h3
    omega
  refine LoopEnd.intro (nw' := (q, W.listOf (ws.toArray.push (.int ((x / b : Nat) : Int) u)) k') :: TL) F (fun p hp => N' p (hN p hp)) (fun p hp r hr => ?_) ⟨t, ws ++ [.int ((x / b : Nat) : Int) u], k', qs ++ [x / b], ?_, hr, ?_, ?_, ?_, ?_, ?_⟩
  · rcases List.mem_cons.mp hp with rfl | hp
    · exact ap (q, o) (List.mem_cons_self ..) r hr
    · exact ap p (List.mem_cons_of_mem _ hp) r hr
  · rw [hmod]; exact e1
  · rw [List.push_toArray]
  · rw [List.map_append]
    exact intsAre_append hI (.cons _ _ .nil)
  · rw [List.length_append, List.length_singleton, hql]
  · intro d hd
    rcases List.mem_append.mp hd with hd | hd
    · exact hqlt d hd
    · rw [List.mem_singleton.mp hd]; exact hlt
  · rw [List.reverse_append, List.reverse_singleton, List.singleton_append, ofD, hq, hdiv]
    rw [Nat.mul_comm (2 ^ N)]
    omega
theorem rot3 {g h : Heap} {L : Addr} {a b c : Addr × Obj} {TL : List (Addr × Obj)} (N : News g L h (a :: b :: c :: TL)) : News g L h (a :: c :: ((b :: TL) ++ [])) := fun q hq => N q (by
  simp only [List.append_nil, List.mem_cons] at hq ⊢
  rcases hq with h | h | h | h
  · exact .inl h
  · exact .inr (.inr (.inl h))
  · exact .inr (.inl h)
  · exact .inr (.inr (.inr h)))
section
variable {prog : Program} {w : World} {A : Around} {E : Value → Shared → Prop} {s : Shared} {h₀ : Heap} {L : Addr} {m : Str → Option Value} {news news' : List (Addr × Obj)} {D : Addr} {k : Nat}
theorem n_reverse {ws : List Value} {Q : Value → Shared → Prop} (F : Fr h₀ L s.heap m) (N : News h₀ L s.heap news) (U : Upd D (W.listOf (List.toArray ws) k) (W.listOf (List.toArray ws.reverse) k) news news') (hz : ws.length ≤ 100)
    (h : ∀ h', Fr h₀ L h' m → News h₀ L h' news' → Q .none { s with heap := h' }) : wpAny (model prog w) A (call (.builtin "list.reverse") [.ref D]) Q E s :=
  kl_reverse F N (by simp) U (by simpa using Nat.le_trans hz (by decide)) h
end
theorem lines_F15_5 : True := by
  (k_with "mine call builtin:list.reverse" => (k_here; (try dsimp only); (with_reducible show wpAny _ _ (call (Value.builtin _) [Value.ref _]) _ _ _); k_dflt (refine' n_reverse ?F_h ?N_h ?U_h ?z_h ?_; (case F_h => k_asm); (case N_h => k_asm); (case U_h => k_upd); (case z_h => omega); k_whole); intro h_q F_q N_q; (try k_sweep)))
  trivial
theorem dmp_spec (w : World) (a b : Nat) (t1 t2 : Tok) : SpecT w 12 200 (.ref 56) [.int ((a : Nat) : Int) t1, .int ((b : Nat) : Int) t2] (fun _ => a < 2 ^ 1000 ∧ 1 ≤ b ∧ b < 2 ^ 200 ∧ cntD a (Builtin.Int.intBits ((b : Nat) : Int)) ≤ 64) (DmOut a b) := by
  unfold SpecT
  intro p lz mean mg mb dp un gd cn cs a' ccd cl outer A₀ base h₀ L m s Q E TL H hT NT hdp hu hok hret
  refine hide ?_
  intro GG bk
  obtain ⟨B, F, X, T, hk⟩ := H
  obtain ⟨ha, hb1, hb2, hcn⟩ := hok
  refine bk ?_
  clear bk
  ((refine wpAny_call ?_; k_dflt (refine' enterG ?k1 ?k2 ?k3 ?k4 ?k5 ?kA ?kF ?kK ?k6 ?k7 ?k8 ?k9 ?kB ?_ ?c2 ?c3 ?c4 ?c5; (case kA => exact rfl); (case kF => exact rfl); (case kK => assumption); (case k1 => k_asm); (case k2 => k_asm); (case k3 => k_asm); (case k4 => assumption); (case k5 => k_asm); (case k6 => k_is); (case k7 => k_is); (case k8 => ktr_room); (case k9 => exact BindsTo.of_eq rfl); (case c5 => decide); (case kB => exact locs rfl); (case c2 => exact rfl); (case c3 => exact rfl); (case c4 => exact rfl); k_whole)))
  intro g' L' h' hG _ FG' F' N' B' X' T' lt'
  try dsimp only
  try k_fold
  k_steps
  rename Fr g' L' _ _ => F8
  rename News g' L' _ _ => N8
  have hnb : Builtin.Int.intBits ((b : Nat) : Int) ≤ 200 := PySem.intBits_le_iff.mpr (by simpa using hb2)
  have hnb1 : 1 ≤ Builtin.Int.intBits ((b : Nat) : Int) := by
    rcases Nat.eq_zero_or_pos (Builtin.Int.intBits ((b : Nat) : Int)) with e | e
    · have := (PySem.intBits_le_iff (m := 0) (x := ((b : Nat) : Int))).mp (by omega)
      simp at this
      omega
    · exact e
  have hbn : b < 2 ^ Builtin.Int.intBits ((b : Nat) : Int) := by
    have := (PySem.intBits_le_iff (x := ((b : Nat) : Int))).mp (Nat.le_refl _)
    simpa using this
  generalize hNb : Builtin.Int.intBits ((b : Nat) : Int) = Nb at *
  refine Halt.mk ?_
  k_dflt (refine' useT (news := []) (i2d_spec w a Nb _ _) B' F8 X' T' rfl hT N8 (fun q hq => nomatch hq) ?kd ?ku ⟨hnb1, hnb, hcn⟩ ?_)
  (case kd => ktr_room); (case ku => ktr_units)
  intro r1 h1 tk1 TL1 hT1 F1 N1 ap1 kp1 up1 out1
  refine hide ?_
  intro GG bk
  obtain ⟨d, ws, k, rfl, fd, od, hws⟩ := out1
  refine bk ?_
  clear bk
  rw [List.nil_append] at N1
  have N1 := join F8 fd od N1
  clear up1 ap1 F8 N8
  try dsimp only
  try k_fold
  k_steps
  rename Fr g' L' _ _ => F8
  rename News g' L' _ _ => N8
  rename d < _ ∧ AllLt _ TL1 => lq
  rename _ ∧ d < _ ∧ AllLt _ TL1 => lI
  have hwl : ws.length = cntD a Nb := by rw [hws.length]; exact digs_length ..
  have N9 := rot3 N8
  refine Halt.mk (forRev rfl ?hc F8 N9 ?_ ?_ ?_ (Jdm _ a b Nb (cntD a Nb) _ TL1) (Jdm.zero rfl (cntD_bits hnb1)) ?_ ?_)
  · rw [List.size_toArray]
  · refine neN ?_; omega
  · intro q hq
    rcases List.mem_cons.mp hq with rfl | hq
    · refine neN ?_; dsimp only; omega
    · exact Nat.ne_of_lt (allLt_mem lI.2.2 q hq)
  · intro q hq
    rcases List.mem_cons.mp hq with rfl | hq
    · refine neN ?_; dsimp only; omega
    · intro e
      have e2 := News.inj N8 (.tail _ (.tail _ (.tail _ hq))) (.tail _ (.tail _ (.head _))) e
      obtain ⟨vs, hvs⟩ := hT1.off q hq
      rw [e2] at hvs
      cases hvs
  · intro i v m₁ nw h tk T9 hi hv HH9 F9 N9 ap
    refine hide ?_
    intro GG bk
    obtain ⟨t, ws', kq, qs, e1, hr, rfl, hI, hql, hqlt, hq⟩ := HH9
    refine bk ?_
    clear bk
    refine hide ?_
    intro GG bk
    obtain ⟨n, tn, hn, rfl⟩ := ints_at hws hv
    refine bk ?_
    clear bk
    rw [List.size_toArray, hwl] at hi hn
    have hj := digs_at Nb (cntD a Nb) (cntD a Nb - 1 - i) a (by omega)
    have hj' : some n = _ := hn.symm.trans hj
    obtain rfl := Option.some.inj hj'
    have hrb : a / 2 ^ (Nb * (cntD a Nb - i)) % b < b := Nat.mod_lt _ hb1
    have hr200 : a / 2 ^ (Nb * (cntD a Nb - i)) % b < 2 ^ 200 := Nat.lt_trans hrb hb2
    have hB200 : 200 + Nb ≤ 2 ^ 27 := Nat.le_trans (Nat.add_le_add_left hnb _) (by decide)
    have hwl1 : ws'.length = i := by rw [hI.length, List.length_map, hql]
    have hc64 : i ≤ 64 := by omega
    have hwl2 : ws'.toArray.size ≤ 64 := by rw [List.size_toArray, hwl1]; exact hc64
    have em := dmM_ext e1 hr
    rw [em] at F9
    have hoffq : OwnOff (TL1 ++ T9) [_] := fun q hq b hb => by
      rw [List.mem_singleton.mp hb]
      rcases List.mem_append.mp hq with hq | hq
      · exact Nat.ne_of_lt (allLt_mem lq.2 q hq)
      · exact (ap _ (List.mem_cons_self ..) q hq).symm
    rw [List.cons_append] at N9
    generalize hTT : TL1 ++ T9 = TT at N9 hoffq
    clear hn hj hj' hv
    try dsimp only
    try k_fold
    k_steps
    have hx : a / 2 ^ (Nb * (cntD a Nb - i)) % b * 2 ^ Nb + a / 2 ^ (Nb * (cntD a Nb - 1 - i)) % 2 ^ Nb < 2 ^ 3000 := by
      have h1 : a / 2 ^ (Nb * (cntD a Nb - i)) % b * 2 ^ Nb ≤ 2 ^ 200 * 2 ^ 200 := Nat.mul_le_mul (Nat.le_of_lt hr200) (Nat.pow_le_pow_right (by decide) hnb)
      have h2 : a / 2 ^ (Nb * (cntD a Nb - 1 - i)) % 2 ^ Nb < 2 ^ 200 := Nat.lt_of_lt_of_le (Nat.mod_lt _ (Nat.two_pow_pos _)) (Nat.pow_le_pow_right (by decide) hnb)
      exact Nat.lt_of_lt_of_le (Nat.add_lt_add_of_le_of_lt h1 h2) (by decide)
    have hb3 : b < 2 ^ 3000 := Nat.lt_of_lt_of_le hb2 (Nat.pow_le_pow_right (by decide) (by decide))
    refine Halt.mk ?_
    k_dflt (refine' useS (div2_spec w _ b Nb _ _ _) B' F9 X' N9 T' rfl ?kd ?ku ⟨hx, hb1, hb3⟩ ?_)
    (case kd => ktr_room); (case ku => ktr_units)
    intro r2 h2 tk2 F2 N2 up2 out2
    refine hide ?_
    intro GG bk
    obtain ⟨tt, u1, u2, rfl, ft, ot⟩ := out2
    refine bk ?_
    clear bk
    have N3 := join F9 ft ot N2
    have ne3 := apart ft N9
    rw [List.forall_mem_cons] at ne3
    have ne4 : @Ne Nat _ tt := ne3.1
    dsimp only at ne4
    have ne5 : OwnOff TT [tt, _] := fun q hq b hb => by
      rcases List.mem_cons.mp hb with rfl | hb
      · exact ne3.2 q hq
      · exact hoffq q hq b hb
    clear hoffq ne3 N2 up2 ft ot N9 F9
    try dsimp only
    try k_fold
    k_steps
    rename Fr g' _ _ _ => F7
    rename News g' _ _ _ => N7
    refine Jdm.next (u := u1) (k' := kq + 1) (o := W.listOf (List.toArray ws') kq) F7 N7 (fun p hp => ?_) ap rfl ?_ hI hql hqlt hq hi hb1 rfl
    · rw [hTT] at hp
      exact .tail _ hp
    · intro y h1 h2 h3
      simp only [if_neg h1, if_neg h2, if_neg h3]
  · intro m₁ nw h tk HH4 F9 N9
    refine hide ?_
    intro GG bk
    obtain ⟨t, ws', kq, qs, e1, hr, rfl, hI, hql, hqlt, hq⟩ := HH4
    refine bk ?_
    clear bk
    rw [List.size_toArray, hwl] at e1 hql hq
    have em := dmM_ext e1 hr
    rw [em] at F9
    have hwl1 : ws'.length = cntD a Nb := by rw [hI.length, List.length_map, hql]
    have hwl2 : ws'.toArray.size ≤ 64 := by rw [List.size_toArray, hwl1]; exact hcn
    have hoffq : OwnOff TL1 [_] := fun q hq b hb => by
      rw [List.mem_singleton.mp hb]
      exact Nat.ne_of_lt (allLt_mem lq.2 q hq)
    try dsimp only
    try k_fold
    k_steps
    rename Fr g' _ _ _ => F8
    rename News g' _ _ _ => N8
    have hIr : IntsAre ws'.reverse (qs.reverse.map Nat.cast) := by rw [List.map_reverse]; exact PyProof.Rows.IntsAre.reverse hI
    have nq := N8 _ (.head _)
    refine Halt.mk ?_
    k_dflt (refine' useT (news := [_]) (d2i_spec w _ Nb _ ws'.reverse qs.reverse) B' F8 X' T' rfl hT1 N8 ?kap ?kd ?ku ⟨hnb1, hnb, listOf_is nq.1, hIr, ?k1, ?k2⟩ ?_)
    (case kap => exact fun p hp r hr => by rw [List.mem_singleton.mp hp]; exact (hoffq r hr _ (List.mem_singleton.mpr rfl)).symm)
    (case kd => ktr_room); (case ku => ktr_units)
    (case k1 => intro d hd; exact hqlt d (List.mem_reverse.mp hd))
    (case k2 => rw [List.length_reverse, hql]; exact hcn)
    intro r2 h2 tk2 TL2 hT2 F2 N2 ap2 kp2 up2 out2
    obtain ⟨u2, rfl⟩ := out2
    clear up2 F8 N8 nq
    rw [List.cons_append, List.nil_append] at N2
    try dsimp only
    try k_fold
    k_steps
    rename Fr g' _ _ _ => F7
    rename News g' _ _ _ => N7
    have NT' : News g' L' _ TL2 := fun q hq => N7 q (.tail _ (.tail _ hq))
    have n1 := N7 _ (.head _)
    have e0 : a / 2 ^ (Nb * (cntD a Nb - cntD a Nb)) = a := by rw [Nat.sub_self, Nat.mul_zero, Nat.pow_zero, Nat.div_one]
    rw [e0] at hq e1
    rename _ ∧ AllLt _ TL2 => lD
    refine hret _ _ _ TL2 hT2 (News.down FG' NT') (Grew.of hG NT') (kp1.trans kp2) (UpOff.of hG F7) (DmOut.mk hq (congrArg (· % b) e0) (fresh_of hG (fun hm => ?_) n1.2.2) n1.1)
    refine hide ?_
    intro GG bk
    obtain ⟨r, hr, e⟩ := List.mem_map.mp hm
    obtain ⟨o9, ho9⟩ := (kp1.trans kp2) r hr
    refine bk ?_
    clear bk
    have := allLt_mem lD.2 _ ho9
    rw [e] at this
    exact Nat.lt_irrefl _ this
end
end
section
open PySem PySem.W PyProof.Rows PySem.Spec PySem.Calls
section
theorem top_off_F16 : True := by
  w_top off
  k_with_none
  trivial
theorem lines_F16_1 : True := by
  (k_with "mine subscriptTail Name Constant ref int" => (k_here; (with_reducible show wpAny _ _ (subscriptTail _ _ (Value.ref _) (Value.int _ _)) _ _ _); (with_unfolding_all refine' item_base ?k1_h ?k2_h ?k3_h ?k4_h ?k5_h ?_ ?k6_h; (case k1_h => k_asm); (case k2_h => assumption); (case k3_h => decide); (case k4_h => decide); (case k5_h => first | exact at3_0 | exact at3_1 | exact at3_2); (case k6_h => with_unfolding_all rfl); k_whole)))
  (k_with "mine call builtin:min" => (k_here; (with_reducible show wpAny _ _ (call (Value.builtin _) [Value.ref _]) _ _ _); k_dflt (refine' minLK ?k1_h ?k2_h ?k3_h ?k4_h ?_; (case k1_h => k_asm); (case k2_h => k_asm); (case k3_h => exact rfl); (case k4_h => assumption); k_whole); intro y_q h_q tk_q F_q N_q; (try dsimp only); (try k_sweep)))
  (k_with "mine call builtin:max" => (k_here; (with_reducible show wpAny _ _ (call (Value.builtin _) [Value.ref _]) _ _ _); k_dflt (refine' maxLK ?k1_h ?k2_h ?k3_h ?k4_h ?_; (case k1_h => k_asm); (case k2_h => k_asm); (case k3_h => exact rfl); (case k4_h => assumption); k_whole); intro y_q h_q tk_q F_q N_q; (try dsimp only); (try k_sweep)))
  (k_with "mine eval ListComp" => (k_here; refine Halt.out ?_))
  (k_with "mine exec Assign cons ListComp" => (k_here; refine Halt.out ?_))
  (k_with "mine pyIter ref" => (k_here; refine Halt.out ?_))
  (k_with "mine compareOp NotEq ref ref" => (k_here; k_dflt (refine' ke_ne_ints ?k1_h ?k2_h ?k3_h ?k4_h ?k5_h ?_; (case k1_h => (first | exact Heap.IsList.at (by assumption) (fun o e => Fr.keep (by assumption) _ o e) | exact listOf_is (News.get (by assumption) (by k_mem)))); (case k2_h => (first | exact Heap.IsList.at (by assumption) (fun o e => Fr.keep (by assumption) _ o e) | exact listOf_is (News.get (by assumption) (by k_mem)))); (case k3_h => (first | exact ints3 | exact IntsAre.nil | assumption)); (case k4_h => (first | exact ints3 | exact IntsAre.nil | assumption)); (case k5_h => ktr_units); k_whole)))
  (k_with "mine compareOp Eq ref ref" => (k_here; k_dflt (refine' ke_eq_ints ?k1_h ?k2_h ?k3_h ?k4_h ?k5_h ?_; (case k1_h => (first | exact Heap.IsList.at (by assumption) (fun o e => Fr.keep (by assumption) _ o e) | exact listOf_is (News.get (by assumption) (by k_mem)))); (case k2_h => (first | exact Heap.IsList.at (by assumption) (fun o e => Fr.keep (by assumption) _ o e) | exact listOf_is (News.get (by assumption) (by k_mem)))); (case k3_h => (first | exact ints3 | exact IntsAre.nil | assumption)); (case k4_h => (first | exact ints3 | exact IntsAre.nil | assumption)); (case k5_h => ktr_units); k_whole)))
  (k_with "mine call ref" => (k_here; refine Halt.out ?_))
  trivial
theorem fresh_entry {h g h' : Heap} {L' t : Addr} {m : Str → Option Value} {TL : List (Addr × Obj)} (hG : ∀ b o, h.get? b = some o → b ∉ TL.map (·.1) → g.get? b = some o) (F : Fr g L' h' m) (N : News g L' h' TL) (hn : h'.get? t = none) : h.get? t = none := by
  cases e : h.get? t with
  | none => rfl
  | some o =>
    by_cases hm : t ∈ TL.map (·.1)
    · obtain ⟨r, hr, e2⟩ := List.mem_map.mp hm
      have := (N r hr).1
      rw [e2, hn] at this; cases this
    · rw [F.keep _ _ (hG _ _ e hm)] at hn; cases hn
theorem idm_spec (w : World) (a b : Nat) (t1 t2 : Tok) : SpecT w 14 220 (.ref 63) [.int ((a : Nat) : Int) t1, .int ((b : Nat) : Int) t2] (fun _ => a < 2 ^ 1000 ∧ 1 ≤ b ∧ b < 2 ^ 200 ∧ cntD a (Builtin.Int.intBits ((b : Nat) : Int)) ≤ 64) (DmOut a b) := by
  unfold SpecT
  intro p lz mean mg mb dp un gd cn cs a' ccd cl outer A₀ base h₀ L m s Q E TL H hT NT hdp hu hok hret
  obtain ⟨B, F, X, T, hk⟩ := H
  have hb1 := hok.2.1
  ((refine wpAny_call ?_; k_dflt (refine' enterG ?k1 ?k2 ?k3 ?k4 ?k5 ?kA ?kF ?kK ?k6 ?k7 ?k8 ?k9 ?kB ?_ ?c2 ?c3 ?c4 ?c5; (case kA => exact rfl); (case kF => exact rfl); (case kK => assumption); (case k1 => k_asm); (case k2 => k_asm); (case k3 => k_asm); (case k4 => assumption); (case k5 => k_asm); (case k6 => k_is); (case k7 => k_is); (case k8 => ktr_room); (case k9 => exact BindsTo.of_eq rfl); (case c5 => decide); (case kB => exact locs rfl); (case c2 => exact rfl); (case c3 => exact rfl); (case c4 => exact rfl); k_whole)))
  intro g' L' h' hG _ FG' F' N' B' X' T' lt'
  try dsimp only
  try k_fold
  k_steps
  · omega
  rename Fr g' L' _ _ => F8
  rename News g' L' _ _ => N8
  refine Halt.mk ?_
  k_dflt (refine' useT (news := []) (dmp_spec w a b _ _) B' F8 X' T' rfl hT N8 (fun q hq => nomatch hq) ?kd ?ku hok ?_)
  (case kd => ktr_room); (case ku => ktr_units)
  intro r1 h1 tk1 TL1 hT1 F1 N1 ap1 kp1 up1 out1
  obtain ⟨t, u1, u2, rfl, ft, ot⟩ := out1
  rw [List.nil_append] at N1
  have N1 := join F8 ft ot N1
  have ft' := fresh_entry hG F8 N8 ft
  clear up1 ap1 F8 N8
  try dsimp only
  try k_fold
  k_steps
  rename Fr g' _ _ _ => F7
  rename News g' _ _ _ => N7
  have NT' : News g' L' _ TL1 := fun q hq => N7 q (.tail _ hq)
  exact hret _ _ _ TL1 hT1 (News.down FG' NT') (Grew.of hG NT') kp1 (UpOff.of hG F7) ⟨_, _, _, rfl, ft', (N7 _ (.head _)).1⟩
end
end
section
open PySem PySem.W PyProof.Rows PySem.Spec PySem.Calls
section
abbrev cellNone : Obj := { cls := .type "cell", data := .cell none }
section
variable {prog : Program} {w : World} {A : Around} {E : Value → Shared → Prop} {s : Shared} {env : Env}
/-- the frame of a comprehension whose variable is a cell -/
theorem newCellEnv {M : Model} {scope : Scope} {cl : List (Str × Addr)} {x : Str} {qual : Str} {globals : Addr} {Q : Env → Shared → Prop}
    (hcf : ∀ n, cellsFrom n scope.names cl = (x, n) :: cl) (hpc : ∀ h : Heap, pushCells h scope.names = h.push cellNone)
    (h : Q { scope := scope, locals := s.heap.objs.size, globals := globals, cells := (x, s.heap.objs.size + 1) :: cl, qual := qual, func := none, code := env.code, frame := env.frame, builtins := env.builtins }
      { s with heap := (s.heap.push { cls := .type "dict", data := .dict #[] }).push cellNone }) :
    wpAny M A (newFunctionEnv scope globals cl [] qual none .none (some env)) Q E s := by
  simp only [newFunctionEnv, Option.isSome_some, if_true]
  refine wpAny_bind (wpAny_alloc ?_)
  refine wpAny_bind (wpAny_layCells _ (fun name kind cells => by cases hkc : kind == NameKind.cell <;> simp [hkc]) _ _ _ _ ?_)
  rw [show ({ s with heap := s.heap.push { cls := .type "dict", data := .dict #[] } } : Shared).heap.objs.size = s.heap.objs.size + 1 from Heap.size_push .., hcf, hpc]
  refine wpAny_bind ?_
  rw [List.forIn_nil]
  exact wpAny_pure (wpAny_pure h)

/-- the place behind a comprehension's source; its variable is a cell, its elements bring nothing -/
def CompAtC (prog : Program) (w : World) (A : Around) (env : Env) (scope : Scope) (cl : List (Str × Addr)) (x y : Str) (elt : Expr) (h₀ : Heap) (L : Addr) (m : Str → Option Value) (R : Value → Value → Prop) (Q : Flow → Shared → Prop) (it : Value) (s₂ : Shared) : Prop :=
  ∃ I n P St, it = .ref I ∧ Walks prog w A I [I] [I] n P St ∧ n ≤ sizeLine ∧ St 0 s₂.heap ∧ I < s₂.heap.objs.size ∧ Fr h₀ L s₂.heap m ∧ L ≠ I ∧ h₀.get? I = none ∧
    (∀ C c oC oc i v h tk E', P i v → s₂.heap.get? C = none → s₂.heap.get? c = none → C ≠ c → h.get? C = some oC → h.get? c = some oc → oc.data = .cell (some v) → (∀ b o, b ≠ I → s₂.heap.get? b = some o → h.get? b = some o) →
      wpAny (model prog w) A (eval elt (compEnvC scope ((x, c) :: cl) C env)) (fun y s₄ => Keeps { s₂ with heap := h, toks := tk } s₄ ∧ R v y) E' { s₂ with heap := h, toks := tk }) ∧
    ∀ D h' tk k ys (vs : List Value), s₂.heap.get? D = none → h'.get? D = some (listOf ys k) → vs.length = n → (∀ j v, vs[j]? = some v → P j v) → Paired R vs ys.toList →
      (∀ b o, b ≠ I → b ≠ L → s₂.heap.get? b = some o → h'.get? b = some o) → Fr h₀ L h' (fun z => if z = y then some (.ref D) else m z) → Q .next { s₂ with heap := h', toks := tk }

theorem compCA {elt iter : Expr} {x y : Str} {px py : Pos} {scope : Scope} {cl : List (Str × Addr)} {pos spos : Pos} {h₀ : Heap} {L : Addr} {m : Str → Option Value} {Q : Flow → Shared → Prop} (_F₀ : Fr h₀ L s.heap m) (R : Value → Value → Prop) (hLe : env.locals = L)
    (hsw : swapsWith (.ListComp elt [⟨.Name x px, iter, [], 0⟩] scope pos) (some (.Name y py)) spos.line env = pure true)
    (hclos : closureFor scope env = pure cl) (hcf : ∀ n, cellsFrom n scope.names cl = (x, n) :: cl) (hpc : ∀ h : Heap, pushCells h scope.names = h.push cellNone) (hkind : scope.kind = .function)
    (hnames : ∀ z ∈ scope.names, z.2 = .local → scope.names.lookup z.1 = some .local) (hx : (relabel scope env).names.lookup x = some .cell)
    (hy : env.kindOf y = some .local) (hp : (env.scope.kind == .class || (env.scope.kind == .module && env.locals != env.globals)) = false)
    (h : wpAny (model prog w) A (eval iter env) (fun xv s₁ => wpAny (model prog w) A (pyIter xv) (CompAtC prog w A env scope cl x y elt h₀ L m R Q) E s₁) E s)
    (hs : ∀ x, foldedSetIterable iter env x = pure x := by intro _; rfl) :
    wpAny (model prog w) A (exec (.Assign [.Name y py] (.ListComp elt [⟨.Name x px, iter, [], 0⟩] scope pos) spos) env) Q E s := by
  subst hLe
  rw [exec_Assign_Name_used _ _ _ _ hsw]
  refine wpAny_bind (wpAny_standAt (wpAny_bind ?_))
  show wpAny _ A (do let _ ← comprehension (.ListComp elt [⟨.Name x px, iter, [], 0⟩] scope pos) scope env _ (newList []) false (eval iter env) (some (assign (.Name y py) env))) _ _ s
  refine wpAny_bind (wpAny_mono (wpAny_comprehension_free (use := some (assign (.Name y py) env)) (Q := fun _ s' => Q .next s') rfl hs hclos hkind hnames
    (wpAny_mono h (fun xv s₁ h₁ => wpAny_mono h₁ (fun it s₂ h₂ => ?_) fun _ _ e => e) fun _ _ e => e)) (fun _ s' hq => wpAny_pure (wpAny_pure hq)) fun _ _ e => e)
  refine hide ?_
  intro GG bk
  obtain ⟨I, n, P, St, rfl, W, hsz, hst, hIlt, F₂, hLI, hI₀, helt, hQ⟩ := h₂
  refine bk ?_
  clear bk
  refine wpAny_newObj_type (newCellEnv hcf hpc ?_)
  have sz1 : (s₂.heap.push { cls := .type "list", dict := none, data := .seq ([] : List Value).toArray }).objs.size = s₂.heap.objs.size + 1 := Heap.size_push ..
  simp only [sz1]
  generalize hH : ((s₂.heap.push { cls := .type "list", dict := none, data := .seq ([] : List Value).toArray }).push { cls := .type "dict", data := .dict #[] }).push cellNone = H
  have up0 : ∀ b o, s₂.heap.get? b = some o → H.get? b = some o := fun b o e => by
    rw [← hH]; exact Heap.get?_push_of_some _ (Heap.get?_push_of_some _ (Heap.get?_push_of_some _ e))
  have gD : H.get? s₂.heap.objs.size = some (listOf #[] 0) := by
    rw [← hH]; exact Heap.get?_push_of_some _ (Heap.get?_push_of_some _ (Heap.get?_push_size _ rfl))
  have gC : H.get? (s₂.heap.objs.size + 1) = some { cls := .type "dict", data := .dict #[] } := by
    rw [← hH, ← sz1]; exact Heap.get?_push_of_some _ (Heap.get?_push_size _ rfl)
  have gc : H.get? (s₂.heap.objs.size + 1 + 1) = some cellNone := by
    rw [← hH, ← sz1]
    have sz2 : ((s₂.heap.push { cls := .type "list", dict := none, data := .seq ([] : List Value).toArray }).push { cls := .type "dict", data := .dict #[] }).objs.size = (s₂.heap.push { cls := .type "list", dict := none, data := .seq ([] : List Value).toArray }).objs.size + 1 := Heap.size_push ..
    rw [← sz2]
    exact Heap.get?_push_size _ rfl
  generalize hD : s₂.heap.objs.size = D at *
  have fresh : ∀ a, D ≤ a → s₂.heap.get? a = none := fun a ha => Heap.get?_none_of_le (hD ▸ ha)
  have low : ∀ b o, s₂.heap.get? b = some o → @LT.lt Nat _ b D := fun b o e => hD ▸ Heap.lt_size e
  have hstH : St 0 H := W.frame _ _ _ hst fun b _ o e => up0 b o e
  have loop : codeAny (model prog w) A (.compLoop (.ListComp elt [⟨.Name x px, iter, [], 0⟩] scope pos) 0 (.ref I) (.ref D) (compEnvC scope ((x, D + 1 + 1) :: cl) (D + 1) env))
      (compPost (model prog w) A E (some (assign (.Name y py) env)) (fun _ s' => Q .next s') (.ref D) (D + 1)) { s₂ with heap := H } := by
    refine codeAny_compLoop_tests
      (fun k s' => ∃ h' tk ys oC, ∃ vs : List Value, s' = { s₂ with heap := h', toks := tk } ∧ St vs.length h' ∧ h'.PlainList D ys ∧ h'.get? (D + 1) = some oC ∧ (h'.Ns (D + 1) fun _ => none) ∧ (∃ v, h'.IsCell (D + 1 + 1) v) ∧ (∀ j v, vs[j]? = some v → P j v) ∧
        Paired R vs ys.toList ∧ vs.length ≤ n ∧ k = n + 1 - vs.length ∧ (∀ b o, b ≠ I → s₂.heap.get? b = some o → h'.get? b = some o)) ?_ (n + 1)
      ⟨H, s₂.toks, #[], _, [], rfl, hstH, ⟨_, gD⟩, gC, ⟨_, #[], 0, gC, rfl, fun _ he => by simp at he, fun _ => rfl⟩, ⟨none, _, gc, rfl⟩, by simp, by simpa using Paired.nil, Nat.zero_le _, rfl, fun b o _ e => up0 b o e⟩
    intro k s' HH2
    refine hide ?_
    intro GG bk
    obtain ⟨H', tk, ys, oC, vs, rfl, hst', hacc', hC', hnC', ⟨v₀, hc'⟩, hP, hF, hi, rfl, hk⟩ := HH2
    refine bk ?_
    clear bk
    have nD : D ≠ I := Nat.ne_of_gt hIlt
    have nC : D + 1 ≠ I := Nat.ne_of_gt (Nat.lt_succ_of_lt hIlt)
    have nc : D + 1 + 1 ≠ I := Nat.ne_of_gt (Nat.lt_succ_of_lt (Nat.lt_succ_of_lt hIlt))
    by_cases hlt : vs.length < n
    · refine W.item vs.length _ _ _ hlt hst' fun v h₁ tk₁ hPv hst₁ hk₁ => ?_
      have hk₁ : ∀ b o, b ≠ I → H'.get? b = some o → h₁.get? b = some o := fun b o hb e => hk₁ b o (by simpa using hb) e
      refine wpAny_assign_Name (wpAny_storeName_cell (c := D + 1 + 1) (v₀ := v₀) (by show (relabel scope env).kind = _; simp [relabel, hkind]) hx (by simp [compEnvC]) (by obtain ⟨o, e1, e2⟩ := hc'; exact ⟨o, hk₁ _ _ nc e1, e2⟩) (fun h₂ hc₂ hs₂ => ?_))
      replace hs₂ : Heap.SameBut (D + 1 + 1) h₁ h₂ := hs₂
      refine hide ?_
      intro GG bk
      obtain ⟨oc, ec, dc⟩ := hc₂
      refine bk ?_
      clear bk
      have up₂ : ∀ b o, b ≠ D + 1 + 1 → b ≠ I → H'.get? b = some o → h₂.get? b = some o := fun b o h1 h2 e => hs₂.extBut b o h1 (hk₁ b o h2 e)
      have old₂ : ∀ b o, b ≠ I → s₂.heap.get? b = some o → h₂.get? b = some o := fun b o hb e => up₂ b o (fun q => by have := low b o e; rw [q] at this; exact absurd (ltN this) (by omega)) hb (hk b o hb e)
      have hst₂ : St (vs.length + 1) h₂ := W.frame _ _ _ hst₁ fun b hb o e => hs₂.extBut b o (fun q => by rw [List.mem_singleton.mp hb] at q; exact nc q.symm) e
      refine wpAny_tests_nil ?_
      simp only [if_true]
      refine wpAny_mono (helt (D + 1) (D + 1 + 1) oC oc vs.length v h₂ _ _ hPv (fresh _ (Nat.le_succ _)) (fresh _ (by omega)) (Nat.ne_of_lt (Nat.lt_succ_self _)) (up₂ _ _ (Nat.ne_of_lt (Nat.lt_succ_self _)) nC hC') ec dc old₂) (fun y9 s₄ h₄ => ?_) fun _ _ e => e
      refine hide ?_
      intro GG bk
      obtain ⟨⟨h₄, tk₄, rfl, hk₄⟩, hRy⟩ := h₄
      refine bk ?_
      clear bk
      have hys : ys.size ≤ sizeLine := by
        have e1 := hF.length
        have e4 : ys.toList.length = ys.size := by simp
        omega
      have up₄ : ∀ b o, b ≠ D + 1 + 1 → b ≠ I → H'.get? b = some o → h₄.get? b = some o := fun b o h1 h2 e => hk₄ b o (up₂ b o h1 h2 e)
      refine wpAny_list_append_plain (hsz := hys) (hacc'.at fun o e => up₄ _ o (neN (by omega)) nD e) fun h₅ hl₅ hs₅ => ?_
      have hl1 : (vs ++ [v]).length = vs.length + 1 := by simp
      refine ⟨n + 1 - (vs.length + 1), by omega, h₅, tk₄, ys.push y9, oC, vs ++ [v], rfl, ?_, hl₅, hs₅.extBut _ _ (neN (by omega)) (up₄ _ _ (neN (by omega)) nC hC'), ?_, ⟨some v, oc, hs₅.extBut _ _ (neN (by omega)) (hk₄ _ _ ec), dc⟩, fun j u hj => ?_, ?_, (by rw [hl1]; exact hlt), (by rw [hl1]), fun b o hb e => hs₅.extBut b o (fun q => by have := low b o e; rw [q] at this; exact Nat.lt_irrefl _ this) (hk₄ b o (old₂ b o hb e))⟩
      · rw [hl1]
        have := W.frame _ _ h₄ hst₂ fun b _ o e => hk₄ b o e
        exact W.frame _ _ h₅ this fun b hb o e => hs₅.extBut b o (fun q => by rw [List.mem_singleton.mp hb] at q; exact nD q.symm) e
      · exact hnC'.at' fun o e => hs₅.extBut _ o (neN (by omega)) (up₄ _ o (neN (by omega)) nC e)
      · rcases Nat.lt_trichotomy j vs.length with h | h | h
        · exact hP j u (by rwa [List.getElem?_append_left h] at hj)
        · subst h; simp at hj; subst hj; exact hPv
        · have hnone : (vs ++ [v])[j]? = none := List.getElem?_eq_none (by rw [List.length_append, List.length_singleton]; omega)
          rw [hnone] at hj; cases hj
      · rw [Array.toList_push]
        exact Paired.snoc hF hRy
    · have hin : vs.length = n := by omega
      refine W.done _ _ _ (hin ▸ hst') fun h₁ tk₁ hk₁ => ?_
      have hk₁ : ∀ b o, b ≠ I → H'.get? b = some o → h₁.get? b = some o := fun b o hb e => hk₁ b o (by simpa using hb) e
      refine hide ?_
      intro GG bk
      obtain ⟨oL, _, _, hoL, _⟩ := F₂.ns
      refine bk ?_
      clear bk
      have lL := low _ _ hoL
      have F' : Fr h₀ env.locals h₁ m := ⟨F₂.ns.at' fun o e => hk₁ _ o hLI (hk _ o hLI e), fun b o e => hk₁ b o (fun q => by rw [q, hI₀] at e; cases e) (hk b o (fun q => by rw [q, hI₀] at e; cases e) (F₂.keep b o e)), F₂.above⟩
      show wpAny _ A (assign (.Name y py) env (.ref D)) _ _ _
      refine wpAny_assign_Name (wpAny_storeName_local hy F'.ns (fun h₂ hn₂ hs₂ => ?_) hp)
      have F₃ := F'.set hn₂ hs₂
      have nCL : D + 1 ≠ env.locals := fun q => by rw [← q] at lL; exact absurd (ltN lL) (by omega)
      have nDL : D ≠ env.locals := fun q => by rw [← q] at lL; exact Nat.lt_irrefl _ lL
      have hC₀ : h₀.get? (D + 1) = none := by
        cases e : h₀.get? (D + 1) with
        | none => rfl
        | some o => exact absurd (ltN (low _ _ (F₂.keep _ _ e))) (by omega)
      refine ⟨fun _ => none, hnC'.at' fun o e => hs₂.extBut _ o nCL (hk₁ _ o nC e), fun h₃ hs₃ => ?_⟩
      obtain ⟨k9, hpl⟩ := hacc'
      refine hQ D h₃ _ k9 ys vs (fresh _ (Nat.le_refl _)) (hs₃.extBut _ _ (by show D ≠ D + 1; exact neN (by omega)) (hs₂.extBut _ _ nDL (hk₁ _ _ nD hpl))) hin hP hF (fun b o hb1 hb2 e => hs₃.extBut b o (fun q => by have := low b o e; rw [q] at this; exact absurd (ltN this) (by omega)) (hs₂.extBut b o hb2 (hk₁ b o hb1 (hk b o hb1 e)))) (F₃.change hs₃ nCL hC₀)
  exact codeAny_compStart_list loop (W.self 0 _ _ _ hstH loop)

/-- a range as the source -/
theorem iterRangeC {r : Addr} {a b : Int} {t u v : Tok} {n : Nat} {scope : Scope} {cl : List (Str × Addr)} {x y : Str} {elt : Expr} {h₀ : Heap} {L : Addr} {m : Str → Option Value} {news : List (Addr × Obj)} {R : Value → Value → Prop} {Q : Flow → Shared → Prop}
    (hh : A.handled = none) (hr : IsRange s.heap r a b 1 t u v) (hsm : Builtin.Range.small a b 1 = true) (hn : Builtin.Range.rangeSize a b 1 = ((n : Nat) : Int)) (hsz : n ≤ sizeLine) (F : Fr h₀ L s.heap m) (N : News h₀ L s.heap news)
    (helt : ∀ (C c : Nat) oC oc i t h tk E', i < n → Fr h₀ L h m → News h₀ L h ((c, oc) :: (C, oC) :: news) → (∀ q ∈ news, q.1 ≠ C) → (∀ q ∈ news, q.1 ≠ c) → C ≠ c → oc.data = .cell (some (.int (a + (i : Int)) t)) → Up s.heap h →
      wpAny (model prog w) A (eval elt (compEnvC scope ((x, c) :: cl) C env)) (fun y s₄ => Keeps { s with heap := h, toks := tk } s₄ ∧ R (.int (a + (i : Int)) t) y) E' { s with heap := h, toks := tk })
    (fin : ∀ D h' tk k ys (vs : List Value), s.heap.get? D = none → vs.length = n → (∀ (j : Nat) v, vs[j]? = some v → ∃ t, v = .int (a + (j : Int)) t) → Paired R vs ys.toList → Fr h₀ L h' (fun z => if z = y then some (.ref D) else m z) → News h₀ L h' ((D, listOf ys k) :: news) → (∀ q ∈ news, q.1 ≠ D) →
      Q .next { s with heap := h', toks := tk }) :
    wpAny (model prog w) A (pyIter (.ref r)) (CompAtC prog w A env scope cl x y elt h₀ L m R Q) E s := by
  refine wpAny_pyIter_range hr hsm ?_
  have up : Up s.heap (s.heap.push { cls := .type "range_iterator", data := .fields #[rawInt a, rawInt (Builtin.Range.rangeSize a b 1), rawInt 1] }) := fun b o e => Heap.get?_push_of_some _ e
  have hI : s.heap.get? s.heap.objs.size = none := Heap.get?_none_of_le (Nat.le_refl _)
  have nI : ∀ b o, s.heap.get? b = some o → b ≠ s.heap.objs.size := fun b o e => Nat.ne_of_lt (Heap.lt_size e)
  refine ⟨_, n, _, _, rfl, (LCg.range_walks hh a n).bound, hsz, by show IsRangeIter _ _ _ _ _; rw [hn]; simpa using Heap.get?_push_size _ rfl, by show _ < (Heap.push _ _).objs.size; rw [Heap.size_push]; exact Nat.lt_succ_self _, F.keeps up, Nat.ne_of_lt F.ns.lt, next_is_new F, ?_, ?_⟩
  · intro C c oC oc i v h tk E' HH9 hC hc hne eC ec dc hk
    refine hide ?_
    intro GG bk
    obtain ⟨hi, t, rfl⟩ := HH9
    refine bk ?_
    clear bk
    have fr : ∀ q : Addr, (s.heap.push { cls := .type "range_iterator", data := .fields #[rawInt a, rawInt (Builtin.Range.rangeSize a b 1), rawInt 1] }).get? q = none → s.heap.get? q = none := fun q e => by
      cases e2 : s.heap.get? q with
      | none => rfl
      | some o => rw [up _ _ e2] at e; cases e
    have u : Up s.heap h := fun b o e => hk b o (nI b o e) (up b o e)
    have hC' := fr C hC
    have hc' := fr c hc
    exact helt C c oC oc i t h tk E' hi (F.keeps u) (join F hc' ec (join F hC' eC (N.grown u))) (apart hC' N) (apart hc' N) hne dc u
  · intro D h' tk k ys vs hD gD hl hP hF hk F'
    have hD' : s.heap.get? D = none := by
      cases e2 : s.heap.get? D with
      | none => rfl
      | some o => have : (s.heap.push _).get? D = none := hD; rw [up _ _ e2] at this; cases this
    exact fin D h' tk k ys vs hD' hl (fun j v hj => (hP j v hj).2) hF F' (join F hD' gD fun q hq => ⟨hk _ _ (nI _ _ (N q hq).1) (N q hq).2.1 (up _ _ (N q hq).1), (N q hq).2⟩) (apart hD' N)

/-- a list as the source; the whole heap is kept -/
theorem iterListU {scope : Scope} {cl : List (Str × Addr)} {x : Str} {ifs : List Expr} {elt : Expr} {a : Addr} {items : Array Value} {p : Value → Bool} {R : Value → Value → List (Addr × Obj) → Prop} {Fin : Addr → Array Value → Nat → Shared → Prop}
    {h₀ : Heap} {L : Addr} {m : Str → Option Value} {news : List (Addr × Obj)} (hh : A.handled = none) (F : Fr h₀ L s.heap m) (N : News h₀ L s.heap news) (hT : s.heap.IsList a items) (hsz : items.size ≤ sizeLine)
    (X : Elts prog w A env scope cl x ifs elt h₀ L m news (fun i v => items[i]? = some v) p R s)
    (fin : ∀ D h' tk k ys, Fr h₀ L h' m → News h₀ L h' ((D, listOf ys k) :: news) → (∀ q ∈ news, q.1 ≠ D) → Up s.heap h' → s.heap.get? D = none → Paired (Brought s.heap h' (· = D) R) (items.toList.filter p) ys.toList → Fin D ys k { s with heap := h', toks := tk }) :
    wpAny (model prog w) A (pyIter (.ref a)) (CompAt prog w A env scope cl x ifs elt p R Fin) E s := by
  have hI : s.heap.get? s.heap.objs.size = none := Heap.get?_none_of_le (Nat.le_refl _)
  refine hide ?_
  intro GG bk
  obtain ⟨oa, hoa, _⟩ := id hT
  refine bk ?_
  clear bk
  have hlt := Heap.lt_size hoa
  refine wpAny_pyIter_list hT ?_
  refine ⟨_, _, _, _, _, _, rfl, Walks.list hh s.heap.objs.size a (Nat.ne_of_lt hlt) items, hsz, fun i h st b hb => ?_, ⟨⟨_, Heap.get?_push_size _ rfl, rfl, rfl⟩, hT.push _⟩, fun b hb => ?_, X.quiet F N hI _ fun b o e => Heap.get?_push_of_some _ e, ?_⟩
  · rw [List.mem_singleton.mp hb]
    refine hide ?_
    intro GG bk
    obtain ⟨o, e, _⟩ := st.1
    refine bk ?_
    clear bk
    exact ⟨o, e⟩
  · show b < (s.heap.push _).objs.size
    rw [Heap.size_push]
    rcases List.mem_cons.mp hb with rfl | hb
    · exact Nat.lt_succ_self _
    · rw [List.mem_singleton.mp hb]; exact Nat.lt_succ_of_lt hlt
  · intro D h' tk k ys vs hD hD' hl hP hF hk
    have up : Up s.heap h' := fun b o e => hk b o (by simp only [List.mem_singleton]; exact Nat.ne_of_lt (Heap.lt_size e)) (Heap.get?_push_of_some _ e)
    have hDs : s.heap.get? D = none := by
      cases e : s.heap.get? D with
      | none => rfl
      | some o => rw [Heap.get?_push_of_some _ e] at hD; cases hD
    rw [vs_eq hl hP] at hF
    exact fin D h' tk k ys (F.keeps up) (join F hDs hD' (N.grown up)) (apart hDs N) up hDs (Paired.imp (fun _ _ => brought_weak fun b o e => Heap.get?_push_of_some _ e) hF)
end
end
end
section
section
theorem cntD_le {a N B c : Nat} (ha : a < 2 ^ B) (h : (B + N - 1) / N ≤ c) : cntD a N ≤ c := by
  unfold cntD
  have hb : PySem.Builtin.Int.intBits ((a : Nat) : Int) ≤ B := PySem.intBits_le_iff.mpr (by simpa using ha)
  exact Nat.le_trans (Nat.div_le_div_right (by omega)) h
end
end
section
open PySem PySem.W PyProof.Rows PySem.Spec PySem.Calls
section
/-- the text that tells the lights -/
def leadsText (ls : List Nat) : List Nat := (ls.flatMap fun n => List.replicate n 32 ++ [9]) ++ [120]
def cntAt (ls : List Nat) (p : Nat) : Int := (((ls.filter fun x => x = p).length : Nat) : Int)
def rowOf (ls : List Nat) : List Int := (List.range 17).map (cntAt ls)
theorem step_blanks (st : WsSt) : ∀ n, (List.replicate n 32).foldl wsStep st = ⟨st.cnt, st.b + n, st.n + n, st.nt⟩
  | 0 => rfl
  | n + 1 => by
    rw [List.replicate_succ', List.foldl_append, step_blanks st n]
    rfl
theorem step_lead (cnt : List Int) (k t n : Nat) : (List.replicate n 32 ++ [9]).foldl wsStep ⟨cnt, 0, k, t⟩ = ⟨bump cnt n, 0, k + n + 1, t + 1⟩ := by
  rw [List.foldl_append, step_blanks]
  show wsStep ⟨cnt, 0 + n, k + n, t⟩ 9 = _
  rw [Nat.zero_add]
  rfl
theorem step_leads : ∀ (ls : List Nat) (cnt : List Int) (k t : Nat), (ls.flatMap fun n => List.replicate n 32 ++ [9]).foldl wsStep ⟨cnt, 0, k, t⟩ = ⟨ls.foldl bump cnt, 0, k + ls.sum + ls.length, t + ls.length⟩
  | [], _, _, _ => rfl
  | n :: r, cnt, k, t => by
    rw [List.flatMap_cons, List.foldl_append, step_lead, step_leads r]
    simp only [List.foldl_cons, List.sum_cons, List.length_cons, WsSt.mk.injEq, true_and]
    omega
theorem run_leads (ls : List Nat) : wsRun (leadsText ls) = ⟨ls.foldl bump [], 0, ls.sum + ls.length, ls.length⟩ := by
  unfold wsRun leadsText
  rw [List.takeWhile_append_of_pos]
  · have : ([120] : List Nat).takeWhile (fun c => c = 32 || c = 9) = [] := by decide
    rw [this, List.append_nil, step_leads]
    simp
  · intro c hc
    obtain ⟨n, _, hc⟩ := List.mem_flatMap.mp hc
    rcases List.mem_append.mp hc with hc | hc
    · rw [(List.mem_replicate.mp hc).2]; decide
    · rw [List.mem_singleton.mp hc]; decide
/-- what bump does, place by place -/
theorem bump_get (c : List Int) (b i : Nat) : (bump c b).getD i 0 = c.getD i 0 + if i = b then 1 else 0 := by
  unfold bump
  have pad : ∀ m j, (c ++ List.replicate m (0 : Int)).getD j 0 = c.getD j 0 := fun m j => by
    simp only [List.getD_eq_getElem?_getD]
    by_cases h : j < c.length
    · rw [List.getElem?_append_left h]
    · rw [List.getElem?_append_right (by omega), List.getElem?_replicate, List.getElem?_eq_none (by omega : c.length ≤ j)]
      split <;> rfl
  have key : ∀ c' : List Int, b < c'.length → (∀ j, c'.getD j 0 = c.getD j 0) → (c'.set b (c'.getD b 0 + 1)).getD i 0 = c.getD i 0 + if i = b then 1 else 0 := fun c' hb hc => by
    simp only [List.getD_eq_getElem?_getD] at hc ⊢
    rw [List.getElem?_set]
    by_cases e : b = i
    · subst e
      rw [if_pos rfl, if_pos hb, if_pos rfl, Option.getD_some, hc]
    · rw [if_neg e, if_neg (fun h => e h.symm), hc, Int.add_zero]
  by_cases h : b < c.length
  · simp only [if_pos h]
    exact key c h fun _ => rfl
  · simp only [if_neg h]
    exact key _ (by rw [List.length_append, List.length_replicate]; omega) (pad _)
theorem bump_length (c : List Int) (b : Nat) : (bump c b).length = max c.length (b + 1) := by
  unfold bump
  rw [List.length_set]
  split
  · omega
  · rw [List.length_append, List.length_replicate]; omega
theorem bumps_get : ∀ (ls : List Nat) (c : List Int) (i : Nat), (ls.foldl bump c).getD i 0 = c.getD i 0 + cntAt ls i
  | [], c, i => by simp [cntAt]
  | n :: r, c, i => by
    rw [List.foldl_cons, bumps_get r, bump_get]
    unfold cntAt
    by_cases h : n = i
    · subst h
      rw [if_pos rfl, List.filter_cons_of_pos (by simp), List.length_cons]
      omega
    · rw [if_neg (fun e => h e.symm), List.filter_cons_of_neg (by simpa using h)]
      omega
/-- the last item is none of nought -/
def Tight (c : List Int) : Prop := ∀ h : c ≠ [], c.getLast h ≠ 0
theorem trim_tight {c : List Int} (h : Tight c) (k : Nat) : trim (c ++ List.replicate k 0) = c := by
  induction k with
  | zero =>
    rw [List.replicate_zero, List.append_nil]
    rcases List.eq_nil_or_concat c with rfl | ⟨l, a, rfl⟩
    · rfl
    · rw [List.concat_eq_append] at h ⊢
      exact trim_last l (by simpa using h (by simp))
  | succ k ih => rw [List.replicate_succ', ← List.append_assoc, trim_zero, ih]
/-- a tight list is the trimmed one of any list with the same items -/
theorem trim_of {c l : List Int} (ht : Tight c) (hl : c.length ≤ l.length) (he : ∀ i, c.getD i 0 = l.getD i 0) : trim l = c := by
  have e : l = c ++ List.replicate (l.length - c.length) 0 := by
    apply List.ext_getElem?
    intro i
    have hi := he i
    simp only [List.getD_eq_getElem?_getD] at hi
    by_cases h1 : i < c.length
    · rw [List.getElem?_append_left h1]
      rw [List.getElem?_eq_getElem h1, List.getElem?_eq_getElem (by omega : i < l.length)] at hi ⊢
      simp only [Option.getD_some] at hi
      rw [hi]
    · rw [List.getElem?_append_right (by omega), List.getElem?_replicate]
      rw [List.getElem?_eq_none (by omega : c.length ≤ i)] at hi
      by_cases h2 : i < l.length
      · rw [if_pos (by omega), List.getElem?_eq_getElem h2] at *
        simp only [Option.getD_some, Option.getD_none] at hi
        rw [← hi]
      · rw [if_neg (by omega), List.getElem?_eq_none (by omega)]
  rw [e]
  exact trim_tight ht _
theorem bump_tight {c : List Int} {b : Nat} (h : Tight c) (hp : ∀ i, 0 ≤ c.getD i 0) : Tight (bump c b) := by
  intro hne
  have hlast : (bump c b).getLast hne = (bump c b).getD ((bump c b).length - 1) 0 := by
    rw [List.getLast_eq_getElem, List.getD_eq_getElem?_getD, List.getElem?_eq_getElem (by have := List.length_pos_iff.mpr hne; omega), Option.getD_some]
  rw [hlast, bump_get, bump_length]
  by_cases hb : b + 1 ≤ c.length
  · have e : max c.length (b + 1) - 1 = c.length - 1 := by omega
    rw [e]
    have hc : c ≠ [] := by intro h; rw [h] at hb; simp at hb
    have h1 := h hc
    rw [List.getLast_eq_getElem] at h1
    have h2 : c.getD (c.length - 1) 0 = c[c.length - 1] := by
      rw [List.getD_eq_getElem?_getD, List.getElem?_eq_getElem (by omega), Option.getD_some]
    have h3 := hp (c.length - 1)
    rw [h2] at h3 ⊢
    split <;> omega
  · have e : max c.length (b + 1) - 1 = b := by omega
    rw [e, if_pos rfl]
    have := hp b
    omega
theorem bumps_tight : ∀ (ls : List Nat) (c : List Int), Tight c → (∀ i, 0 ≤ c.getD i 0) → Tight (ls.foldl bump c)
  | [], _, h, _ => h
  | n :: r, c, h, hp => by
    rw [List.foldl_cons]
    refine bumps_tight r _ (bump_tight h hp) fun i => ?_
    rw [bump_get]
    have := hp i
    split <;> omega
theorem bumps_length : ∀ (ls : List Nat) (c : List Int) (m : Nat), c.length ≤ m → (∀ x ∈ ls, x < m) → (ls.foldl bump c).length ≤ m
  | [], _, _, h, _ => h
  | n :: r, c, m, h, hx => by
    rw [List.foldl_cons]
    refine bumps_length r _ m ?_ fun x hx' => hx x (List.mem_cons_of_mem _ hx')
    rw [bump_length]
    have := hx n (List.mem_cons_self ..)
    omega
theorem row_get {ls : List Nat} (h : ∀ x ∈ ls, x ≤ 16) (i : Nat) : (rowOf ls).getD i 0 = cntAt ls i := by
  unfold rowOf
  rw [List.getD_eq_getElem?_getD, List.getElem?_map]
  by_cases hi : i < 17
  · rw [List.getElem?_range hi]; rfl
  · rw [List.getElem?_eq_none (by rw [List.length_range]; omega)]
    have : ls.filter (fun x => x = i) = [] := by
      rw [List.filter_eq_nil_iff]
      intro x hx
      have := h x hx
      simp; omega
    unfold cntAt
    rw [this]; rfl
theorem counts_trim {ls : List Nat} (h : ∀ x ∈ ls, x ≤ 16) : trim (rowOf ls) = ls.foldl bump [] := by
  refine trim_of (bumps_tight ls [] (fun h => absurd rfl h) fun i => by simp) ?_ fun i => ?_
  · have := bumps_length ls [] 17 (Nat.zero_le _) fun x hx => by have := h x hx; omega
    simpa [rowOf] using this
  · rw [bumps_get, row_get h]; simp

/-- how often each number below m comes -/
def rowN (m : Nat) (L : List Nat) : List Nat := (List.range m).map fun p => (L.filter fun x => x = p).length
theorem rowOf_eq (ls : List Nat) : rowOf ls = (rowN 17 ls).map Nat.cast := by
  unfold rowOf rowN
  rw [List.map_map]
  rfl
def ofF (N : Nat) (f : Nat → Nat) : Nat → Nat
  | 0 => 0
  | m + 1 => ofF N f m + f m * 2 ^ (N * m)
theorem ofD_range (N : Nat) (f : Nat → Nat) : ∀ m, ofD N ((List.range m).map f) = ofF N f m
  | 0 => rfl
  | m + 1 => by
    rw [List.range_succ, List.map_append, ofD_append, ofD_range N f m, List.length_map, List.length_range]
    simp only [List.map_cons, List.map_nil, ofD, Nat.mul_zero, Nat.add_zero, ofF]
    rw [Nat.mul_comm]
theorem ofF_add (N : Nat) (f g : Nat → Nat) : ∀ m, ofF N (fun i => f i + g i) m = ofF N f m + ofF N g m
  | 0 => rfl
  | m + 1 => by
    rw [ofF, ofF_add N f g m, ofF, ofF, Nat.add_mul]
    omega
theorem ofF_zero (N : Nat) : ∀ m, ofF N (fun _ => 0) m = 0
  | 0 => rfl
  | m + 1 => by rw [ofF, ofF_zero N m, Nat.zero_mul]
theorem ofF_one (N n : Nat) : ∀ m, ofF N (fun i => if n = i then 1 else 0) m = if n < m then 2 ^ (N * n) else 0
  | 0 => by simp [ofF]
  | m + 1 => by
    rw [ofF, ofF_one N n m]
    by_cases h : n = m
    · subst h
      rw [if_neg (Nat.lt_irrefl _), if_pos rfl, if_pos (Nat.lt_succ_self _)]; omega
    · rw [if_neg h]
      by_cases h2 : n < m
      · rw [if_pos h2, if_pos (by omega)]; omega
      · rw [if_neg h2, if_neg (by omega), Nat.zero_mul]
theorem ofF_count (N m : Nat) : ∀ L : List Nat, (∀ x ∈ L, x < m) → ofF N (fun p => (L.filter fun x => x = p).length) m = (L.map fun x => 2 ^ (N * x)).sum
  | [], _ => by simpa using ofF_zero N m
  | n :: r, h => by
    have e : (fun p => ((n :: r).filter fun x => x = p).length) = fun p => (if n = p then 1 else 0) + (r.filter fun x => x = p).length := by
      funext p
      by_cases hp : n = p
      · rw [List.filter_cons_of_pos (by simpa using hp), if_pos hp, List.length_cons]; omega
      · rw [List.filter_cons_of_neg (by simpa using hp), if_neg hp]; omega
    rw [e, ofF_add, ofF_one, if_pos (h n (List.mem_cons_self ..)), ofF_count N m r fun x hx => h x (List.mem_cons_of_mem _ hx), List.map_cons, List.sum_cons]
/-- the number whose parts tell how often each number comes -/
theorem ofD_rowN (N m : Nat) (L : List Nat) (h : ∀ x ∈ L, x < m) : ofD N (rowN m L) = (L.map fun x => 2 ^ (N * x)).sum := by
  unfold rowN
  rw [ofD_range, ofF_count N m L h]
theorem ofD_at (N : Nat) : ∀ (ds : List Nat) (i : Nat), (∀ d ∈ ds, d < 2 ^ N) → ofD N ds / 2 ^ (N * i) % 2 ^ N = ds.getD i 0
  | [], i, _ => by simp [ofD]
  | d :: r, 0, h => by
    rw [Nat.mul_zero, Nat.pow_zero, Nat.div_one, ofD, Nat.add_mul_mod_self_left, Nat.mod_eq_of_lt (h d (List.mem_cons_self ..))]
    rfl
  | d :: r, i + 1, h => by
    rw [Nat.mul_succ, Nat.add_comm, Nat.pow_add, ← Nat.div_div_eq_div_mul, ofD, Nat.add_mul_div_left _ _ (Nat.two_pow_pos N), Nat.div_eq_of_lt (h d (List.mem_cons_self ..)), Nat.zero_add,
      ofD_at N r i fun x hx => h x (List.mem_cons_of_mem _ hx)]
    rfl
theorem digs_get (N : Nat) (m x i : Nat) (hx : x < 2 ^ (N * m)) : (digs N m x).getD i 0 = ((x / 2 ^ (N * i) % 2 ^ N : Nat) : Int) := by
  rw [List.getD_eq_getElem?_getD]
  by_cases h : i < m
  · rw [digs_at N m i x h]; rfl
  · rw [List.getElem?_eq_none (by rw [digs_length]; omega)]
    have h1 : 2 ^ (N * m) ≤ 2 ^ (N * i) := Nat.pow_le_pow_right (by decide) (Nat.mul_le_mul_left _ (by omega))
    rw [Nat.div_eq_of_lt (Nat.lt_of_lt_of_le hx h1), Nat.zero_mod]
    rfl
theorem digsOf_tight {N x : Nat} (hN : 1 ≤ N) : Tight (digsOf x N) := by
  intro hne
  have hx := cntD_bits (a := x) hN
  have hl : (digsOf x N).length = cntD x N := digs_length ..
  have hpos : 0 < cntD x N := by rw [← hl]; exact List.length_pos_iff.mpr hne
  have hlast : (digsOf x N).getLast hne = (digsOf x N).getD (cntD x N - 1) 0 := by
    rw [List.getLast_eq_getElem, List.getD_eq_getElem?_getD, List.getElem?_eq_getElem (by omega), Option.getD_some]
    simp only [hl]
  rw [hlast]
  unfold digsOf
  rw [digs_get N _ x _ hx]
  have hb : N * (cntD x N - 1) < Builtin.Int.intBits ((x : Nat) : Int) := by
    have h1 : N * cntD x N ≤ Builtin.Int.intBits ((x : Nat) : Int) + N - 1 := by
      unfold cntD; exact Nat.mul_div_le _ _
    have h2 : N * (cntD x N - 1) + N = N * cntD x N := by
      rw [← Nat.mul_succ]; congr 1; omega
    omega
  have hge : 2 ^ (N * (cntD x N - 1)) ≤ x := by
    refine Nat.le_of_not_lt fun h => ?_
    have := (PySem.intBits_le_iff (x := ((x : Nat) : Int)) (m := N * (cntD x N - 1))).mpr (by simpa using h)
    omega
  have hlt : x / 2 ^ (N * (cntD x N - 1)) < 2 ^ N := by
    refine Nat.div_lt_of_lt_mul ?_
    rw [← Nat.pow_add, ← Nat.mul_succ, show (cntD x N - 1).succ = cntD x N from by omega]
    exact hx
  rw [Nat.mod_eq_of_lt hlt]
  have := Nat.div_pos hge (Nat.two_pow_pos _)
  omega
theorem digsOf_ofD {N : Nat} (hN : 1 ≤ N) (ds : List Nat) (h : ∀ d ∈ ds, d < 2 ^ N) : digsOf (ofD N ds) N = trim (ds.map Nat.cast) := by
  refine (trim_of (digsOf_tight hN) ?_ fun i => ?_).symm
  · rw [List.length_map]
    show (digs N _ _).length ≤ _
    rw [digs_length]
    refine cntD_le (ofD_lt N ds h) ?_
    rw [show N * ds.length + N - 1 = (N - 1) + N * ds.length from by omega, Nat.add_mul_div_left _ _ (by omega), Nat.div_eq_of_lt (by omega)]
    omega
  · unfold digsOf
    rw [digs_get N _ _ _ (cntD_bits hN), ofD_at N ds i h]
    exact (getD_cast ds i).symm
theorem rowN_lt {m : Nat} {L : List Nat} {b : Nat} (h : L.length < b) : ∀ d ∈ rowN m L, d < b := by
  intro d hd
  unfold rowN at hd
  obtain ⟨p, _, rfl⟩ := List.mem_map.mp hd
  exact Nat.lt_of_le_of_lt (List.length_filter_le _ _) h
theorem lights_digs {ls : List Nat} (h : ∀ x ∈ ls, x ≤ 16) (hl : ls.length ≤ 6) : digsOf (ls.map fun n => 16 ^ n).sum 4 = trim (rowOf ls) := by
  have e : (ls.map fun n => 16 ^ n) = ls.map fun n => 2 ^ (4 * n) := by
    apply List.map_congr_left
    intro n _
    rw [Nat.pow_mul]
  rw [e, ← ofD_rowN 4 17 ls (fun x hx => by have := h x hx; omega), digsOf_ofD (by decide) _ (rowN_lt (by omega)), rowOf_eq]
end
end
section
open PySem PySem.W PyProof.Rows PySem.Spec PySem.Calls
section
theorem top_off_F17 : True := by
  w_top off
  k_with_none
  trivial
theorem lines_F17_1 : True := by
  (k_with "mine subscriptTail Name Constant ref int" => (k_here; (with_reducible show wpAny _ _ (subscriptTail _ _ (Value.ref _) (Value.int _ _)) _ _ _); (with_unfolding_all refine' item_base ?k1_h ?k2_h ?k3_h ?k4_h ?k5_h ?_ ?k6_h; (case k1_h => k_asm); (case k2_h => assumption); (case k3_h => decide); (case k4_h => decide); (case k5_h => first | exact at3_0 | exact at3_1 | exact at3_2); (case k6_h => with_unfolding_all rfl); k_whole)))
  (k_with "mine call builtin:min" => (k_here; (with_reducible show wpAny _ _ (call (Value.builtin _) [Value.ref _]) _ _ _); k_dflt (refine' minLK ?k1_h ?k2_h ?k3_h ?k4_h ?_; (case k1_h => k_asm); (case k2_h => k_asm); (case k3_h => exact rfl); (case k4_h => assumption); k_whole); intro y_q h_q tk_q F_q N_q; (try dsimp only); (try k_sweep)))
  (k_with "mine call builtin:max" => (k_here; (with_reducible show wpAny _ _ (call (Value.builtin _) [Value.ref _]) _ _ _); k_dflt (refine' maxLK ?k1_h ?k2_h ?k3_h ?k4_h ?_; (case k1_h => k_asm); (case k2_h => k_asm); (case k3_h => exact rfl); (case k4_h => assumption); k_whole); intro y_q h_q tk_q F_q N_q; (try dsimp only); (try k_sweep)))
  (k_with "mine eval ListComp" => (k_here; refine Halt.out ?_))
  (k_with "mine exec Assign cons ListComp" => (k_here; refine Halt.out ?_))
  (k_with "mine pyIter ref" => (k_here; refine Halt.out ?_))
  (k_with "mine compareOp NotEq ref ref" => (k_here; k_dflt (refine' ke_ne_ints ?k1_h ?k2_h ?k3_h ?k4_h ?k5_h ?_; (case k1_h => (first | exact Heap.IsList.at (by assumption) (fun o e => Fr.keep (by assumption) _ o e) | exact listOf_is (News.get (by assumption) (by k_mem)))); (case k2_h => (first | exact Heap.IsList.at (by assumption) (fun o e => Fr.keep (by assumption) _ o e) | exact listOf_is (News.get (by assumption) (by k_mem)))); (case k3_h => (first | exact ints3 | exact IntsAre.nil | assumption)); (case k4_h => (first | exact ints3 | exact IntsAre.nil | assumption)); (case k5_h => ktr_units); k_whole)))
  (k_with "mine compareOp Eq ref ref" => (k_here; k_dflt (refine' ke_eq_ints ?k1_h ?k2_h ?k3_h ?k4_h ?k5_h ?_; (case k1_h => (first | exact Heap.IsList.at (by assumption) (fun o e => Fr.keep (by assumption) _ o e) | exact listOf_is (News.get (by assumption) (by k_mem)))); (case k2_h => (first | exact Heap.IsList.at (by assumption) (fun o e => Fr.keep (by assumption) _ o e) | exact listOf_is (News.get (by assumption) (by k_mem)))); (case k3_h => (first | exact ints3 | exact IntsAre.nil | assumption)); (case k4_h => (first | exact ints3 | exact IntsAre.nil | assumption)); (case k5_h => ktr_units); k_whole)))
  trivial
local macro_rules | `(tactic| k_all) => `(tactic| exact own_above (by assumption) (by omega))
def leadOf (n : Nat) : Str := ⟨(List.replicate n 32 ++ [9]).toArray⟩
def Rlead (v y : Value) (objs : List (Addr × Obj)) : Prop := ∃ (n : Nat) (t u : Tok), v = .int ((n : Nat) : Int) t ∧ n ≤ 16 ∧ y = .str (leadOf n) u ∧ objs = []
theorem str_ext {a b : Str} (h : a.cps.toList = b.cps.toList) : a = b := by
  cases a; cases b
  simp only [Str.mk.injEq]
  exact Array.toList_inj.mp h
theorem leadOf_eq (n : Nat) : Txt.mul (Str.ofString " ") ((n : Nat) : Int) ++ Str.ofString "\t" = leadOf n := by
  apply str_ext
  rw [Str.cps_append, Array.toList_append, show Str.ofString " " = ⟨#[32]⟩ from by decide, PyProof.Rows.mul_one_list, Int.toNat_natCast]
  rfl
theorem cps_joinS : ∀ l : List Str, (Str.join (Str.ofString "") l).cps.toList = l.flatMap fun x => x.cps.toList
  | [] => rfl
  | [x] => by simp [Str.join]
  | x :: y :: r => by
    show (x ++ Str.ofString "" ++ Str.join (Str.ofString "") (y :: r)).cps.toList = _
    rw [Str.cps_append, Array.toList_append, cps_joinS (y :: r), Str.cps_append, Array.toList_append]
    simp [List.flatMap_cons, show (Str.ofString "").cps.toList = [] from by decide]
theorem cps_join (l : List Str) : (Txt.join (Str.ofString "") l).cps.toList = l.flatMap fun x => x.cps.toList := by
  show (Builtin.Str.glued (Str.ofString "") l).cps.toList = _
  rw [StrLaws.glued_eq_join, cps_joinS]
theorem leads_cps (ls : List Nat) : (Txt.join (Str.ofString "") (ls.map leadOf) ++ Str.ofString "x").cps.toList = leadsText ls := by
  rw [Str.cps_append, Array.toList_append, cps_join]
  unfold leadsText
  congr 1
  induction ls with
  | nil => rfl
  | cons n r ih => rw [List.map_cons, List.flatMap_cons, ih, List.flatMap_cons]; rfl
theorem strs_of {H h' : Heap} {no : Addr → Prop} : ∀ {ws ys : List Value} {ls : List Nat}, IntsAre ws (ls.map Nat.cast) → Paired (Brought H h' no Rlead) ws ys → PyProof.Rows.StrsAre ys (ls.map leadOf)
  | _, _, [], hi, h => by cases hi; cases h; exact .nil
  | _, _, n :: r, hi, h => by
    cases hi with
    | cons _ t hi =>
      cases h with
      | cons a b =>
        obtain ⟨_, ⟨n', t', u', e1, _, rfl, _⟩, _⟩ := a
        injection e1 with e1 _
        have e2 : n = n' := by omega
        subst e2
        exact .cons _ _ (strs_of hi b)
theorem sum_leads : ∀ ls : List Nat, (∀ x ∈ ls, x ≤ 16) → ((ls.map leadOf).map (·.length)).sum ≤ 17 * ls.length
  | [], _ => Nat.le_refl _
  | n :: r, h => by
    have h1 := sum_leads r fun x hx => h x (List.mem_cons_of_mem _ hx)
    have h2 := h n (List.mem_cons_self ..)
    have h3 : (leadOf n).length = n + 1 := by simp [leadOf, Str.length]
    rw [List.map_cons, List.map_cons, List.sum_cons, List.length_cons, h3]
    omega
theorem lines_F17_2 : True := by
  (k_with "mine call builtin:str.join" => (k_here; refine Halt.out ?_))
  (k_with "mine call ref" => (k_here; refine Halt.out ?_))
  trivial
theorem leads_ascii (ls : List Nat) : ∀ c ∈ leadsText ls, c < 128 := by
  intro c hc
  unfold leadsText at hc
  rcases List.mem_append.mp hc with hc | hc
  · obtain ⟨n, _, hc⟩ := List.mem_flatMap.mp hc
    rcases List.mem_append.mp hc with hc | hc
    · rw [(List.mem_replicate.mp hc).2]; decide
    · rw [List.mem_singleton.mp hc]; decide
  · rw [List.mem_singleton.mp hc]; decide
def Rcnt (ls : List Nat) (v y : Value) : Prop := ∃ (p : Nat) (t u : Tok), v = .int ((p : Nat) : Int) t ∧ y = .int (cntAt ls p) u
def Rany (v y : Value) (objs : List (Addr × Obj)) : Prop := y = v ∧ objs = []
def isAt (p : Nat) (v : Value) : Bool := match v with
  | .int n _ => decide (n = (p : Int))
  | _ => false
def Rpow (v y : Value) (objs : List (Addr × Obj)) : Prop := ∃ (n : Nat) (t u : Tok), v = .int ((n : Nat) : Int) t ∧ y = .int ((16 ^ n : Nat) : Int) u ∧ objs = []
theorem any_eq {H h' : Heap} {no : Addr → Prop} : ∀ {vs ys : List Value}, Paired (Brought H h' no Rany) vs ys → ys = vs
  | _, _, .nil => rfl
  | _, _, .cons a b => by
    obtain ⟨_, ⟨rfl, _⟩, _⟩ := a
    rw [any_eq b]
theorem ints_isAt (p : Nat) : ∀ {ws : List Value} {ls : List Nat}, IntsAre ws (ls.map Nat.cast) → IntsAre (ws.filter (isAt p)) ((ls.filter fun x => x = p).map Nat.cast)
  | _, [], hi => by cases hi; exact .nil
  | _, n :: r, hi => by
    cases hi with
    | cons _ t hi =>
      have ih := ints_isAt p hi
      by_cases e : n = p
      · have h1 : isAt p (.int ((n : Nat) : Int) t) = true := by simp [isAt, e]
        rw [List.filter_cons_of_pos h1, List.filter_cons_of_pos (by simpa using e), List.map_cons]
        exact .cons _ _ ih
      · have h1 : ¬ isAt p (.int ((n : Nat) : Int) t) = true := by simp [isAt]; omega
        rw [List.filter_cons_of_neg h1, List.filter_cons_of_neg (by simpa using e)]
        exact ih
section
variable {prog : Program} {w : World} {A : Around} {E : Value → Shared → Prop} {s : Shared} {Q : Value → Shared → Prop}
theorem n_len {l : Addr} {ws : List Value} (hl : s.heap.IsList l (List.toArray ws)) (hb : ws.length ≤ 1000) (h : ∀ t' tk, Q (.int ((ws.length : Nat) : Int) t') { s with toks := tk }) : wpAny (model prog w) A (call (.builtin "len") [.ref l]) Q E s := by
  refine PyProof.Rows.len_list hl (by rw [List.size_toArray]; omega) ?_
  rw [List.size_toArray]
  exact h _ _
end
theorem lines_F17_3 : True := by
  (k_with "mine call builtin:len" => (k_here; (with_reducible show wpAny _ _ (call (Value.builtin "len") [Value.ref _]) _ _ _); k_dflt (refine' n_len ?k1_h ?k2_h ?_; (case k1_h => (first | exact Heap.IsList.at (by assumption) (fun o e => Fr.keep (by assumption) _ o e) | exact listOf_is (News.get (by assumption) (by k_mem)))); (case k2_h => omega); k_whole); intro t_q tk_q))
  trivial
theorem ints_pow {H h' : Heap} {no : Addr → Prop} : ∀ {ws ys : List Value} {ls : List Nat}, IntsAre ws (ls.map Nat.cast) → Paired (Brought H h' no Rpow) ws ys → IntsAre ys (ls.map fun n => ((16 ^ n : Nat) : Int))
  | _, _, [], hi, h => by cases hi; cases h; exact .nil
  | _, _, n :: r, hi, h => by
    cases hi with
    | cons _ t hi =>
      cases h with
      | cons a b =>
        obtain ⟨_, ⟨n', t', u', e1, rfl, _⟩, _⟩ := a
        injection e1 with e1 _
        have e2 : n = n' := by omega
        subst e2
        exact .cons _ _ (ints_pow hi b)
theorem sum_cast {α : Type} (f : α → Nat) : ∀ l : List α, (l.map fun n => ((f n : Nat) : Int)).sum = (((l.map f).sum : Nat) : Int)
  | [] => rfl
  | a :: r => by rw [List.map_cons, List.sum_cons, sum_cast f r, List.map_cons, List.sum_cons, Int.natCast_add]
theorem apart_by {g h : Heap} {L : Addr} {news TL : List (Addr × Obj)} (hT : TabLeds TL) (N : News g L h (news ++ TL)) (hne : ∀ p ∈ news, ∀ vs, p.2.data ≠ .fields vs) : Apart news TL := fun p hp r hr e => by
  have e2 := News.inj N (List.mem_append_left _ hp) (List.mem_append_right _ hr) e
  obtain ⟨vs, hvs⟩ := hT.off r hr
  exact hne p hp vs (by rw [e2]; exact hvs)
theorem sum_pow_lt : ∀ ls : List Nat, (∀ x ∈ ls, x ≤ 16) → (ls.map fun n => 16 ^ n).sum ≤ ls.length * 2 ^ 64
  | [], _ => by simp
  | n :: r, h => by
    have h1 := sum_pow_lt r fun x hx => h x (List.mem_cons_of_mem _ hx)
    have h2 : 16 ^ n ≤ 16 ^ 16 := Nat.pow_le_pow_right (by decide) (h n (List.mem_cons_self ..))
    have h3 : (16 : Nat) ^ 16 = 2 ^ 64 := by decide
    rw [List.map_cons, List.sum_cons, List.length_cons, Nat.succ_mul]
    omega
theorem lines_F17_4 : True := by
  (k_with "mine call type:tuple" => (k_here; (with_reducible show wpAny _ _ (call (Value.type _) [Value.ref _]) _ _ _); k_dflt (refine' kde_tupleOf ?k1_h ?k2_h ?k3_h ?k4_h ?k5_h ?_; (case k1_h => k_asm); (case k2_h => k_asm); (case k3_h => exact listOf_is (News.get (by assumption) (by k_mem))); (case k4_h => assumption); (case k5_h => exact rfl); k_whole); intro D_q h_q F_q N_q l1_q; (try k_lt l1_q); (try k_sweep)))
  (k_with "mine compareOp NotEq ref ref" => (k_here; refine Halt.out ?_))
  trivial
theorem ints_row (ls : List Nat) : ∀ {vs ys : List Value} (o : Nat), Paired (Rcnt ls) vs ys → (∀ (j : Nat) v, vs[j]? = some v → ∃ t, v = .int ((0 : Int) + ((o + j : Nat) : Int)) t) → IntsAre ys ((List.range' o vs.length).map (cntAt ls))
  | _, _, _, .nil, _ => .nil
  | _, _, o, .cons (a := v) (l₁ := r) a b, h => by
    obtain ⟨p, t, u, rfl, rfl⟩ := a
    obtain ⟨t', e⟩ := h 0 _ rfl
    injection e with e _
    have e2 : p = o := by omega
    subst e2
    rw [List.length_cons, List.range'_succ, List.map_cons]
    refine .cons _ _ (ints_row ls (p + 1) b fun j v hj => ?_)
    obtain ⟨t2, e3⟩ := h (j + 1) v (by simpa using hj)
    exact ⟨t2, by rw [e3, show p + (j + 1) = p + 1 + j from by omega]⟩
theorem counted_spec (w : World) (l : Addr) (ws : List Value) (ls : List Nat) : SpecT w 16 300 (.ref 184) [.ref l] (fun h => h.IsList l ws.toArray ∧ IntsAre ws (ls.map Nat.cast) ∧ (∀ x ∈ ls, x ≤ 16) ∧ ls.length ≤ 6) (fun h r h' => ∃ d ws k, r = .ref d ∧ h.get? d = none ∧ h'.get? d = some (W.listOf (List.toArray ws) k) ∧ IntsAre ws (rowOf ls)) := by
  unfold SpecT
  intro p lz mean mg mb dp un gd cn cs a' ccd cl outer A₀ base h₀ L m s Q E TL H hT NT hdp hu hok hret
  refine hide ?_
  intro GG bk
  obtain ⟨B, F, X, T, hk⟩ := H
  obtain ⟨hL, hws, hls, hlen⟩ := hok
  refine bk ?_
  clear bk
  have hLn : l ∉ TL.map (·.1) := fun hm => by
    refine hide ?_
    intro GG bk
    obtain ⟨q, hq, e⟩ := List.mem_map.mp hm
    obtain ⟨vs, hvs⟩ := hT.off q hq
    obtain ⟨o, ho, _, n9, hd⟩ := hL
    refine bk ?_
    clear bk
    have := (NT q hq).1
    rw [e, ho] at this
    rw [← Option.some.inj this, hd] at hvs
    cases hvs
  ((refine wpAny_call ?_; k_dflt (refine' enterC ?k1 ?k2 ?k3 ?k4 ?k5 ?kA ?kF ?kK ?k6 ?k7 ?k8 ?k9 ?kB ?kD ?_ ?c2 ?c3 ?c4; (case kA => exact rfl); (case kF => exact rfl); (case kK => assumption); (case k1 => k_asm); (case k2 => k_asm); (case k3 => k_asm); (case k4 => assumption); (case k5 => k_asm); (case k6 => k_is); (case k7 => k_is); (case k8 => ktr_room); (case k9 => exact BindsTo.of_eq rfl); (case kB => exact rfl); (case kD => decide +kernel); (case c2 => exact rfl); (case c3 => exact rfl); (case c4 => exact rfl); k_whole)))
  intro g' L' h' tk' cells' hG _ FG' F' N' Y' B' X' T' lt'
  k_cells Y'
  try simp only [List.cons_append, List.nil_append] at N'
  have gL := hL.at fun o e => hG _ o e hLn
  rename _ = Data.cell (bindC _ _ _ (Str.ofString "lights")) => dA
  have dA : _ = Data.cell (some (.ref l)) := dA
  try dsimp only
  try k_fold
  k_steps
  have hw6 : ws.length ≤ 6 := by rw [hws.length, List.length_map]; exact hlen
  have hsz6 : ws.toArray.size ≤ sizeLine := by rw [List.size_toArray]; exact Nat.le_trans hw6 (by decide)
  have at6 : ∀ (i : Nat) (v : Value), ws.toArray[i]? = some v → ∃ (n : Nat) (t : Tok), ls[i]? = some n ∧ v = .int ((n : Nat) : Int) t ∧ n ≤ 16 := fun i v hv => by
    refine hide ?_
    intro GG bk
    obtain ⟨n, t, hn, rfl⟩ := ints_at hws hv
    refine bk ?_
    clear bk
    rw [List.getElem?_map] at hn
    cases e : ls[i]? with
    | none => rw [e] at hn; cases hn
    | some a => rw [e] at hn; cases hn; exact ⟨a, t, rfl, rfl, hls a (List.mem_of_getElem? e)⟩
  refine Halt.mk (compE (fun _ => true) Rlead (by rfl) (by decide) (by rfl) (by decide) (by rfl) ?_)
  k_steps
  refine Halt.mk ?_
  rename Fr g' L' _ _ => F8
  rename News g' L' _ _ => N8
  refine iterListE rfl F8 N8 (gL.at fun o e => F8.keep _ o e) hsz6 ⟨?_, ?_⟩ ?_
  · intros; exact wpAny_tests_nil ⟨rfl, _, _, rfl, fun b o e => e⟩
  · intro C oC i v h tk m₃ E' hP hp hN hx9 F9 N9 ne9 up9
    refine hide ?_
    intro GG bk
    obtain ⟨n, t9, _, rfl, hn⟩ := at6 i v hP
    refine bk ?_
    clear bk
    try dsimp only
    try k_fold
    k_steps
    exact ⟨⟨_, _, rfl, fun b o e => e⟩, [], ⟨n, _, _, rfl, hn, by rw [leadOf_eq], rfl⟩, by simp⟩
  · intro D h9 tk9 k9 ys F9 N9 ne9 up9 fr9 hF9
    try dsimp only
    try k_fold
    k_steps
    rename Fr g' L' _ _ => F8
    rename News g' L' _ _ => N8
    rw [List.filter_eq_self.mpr (fun _ _ => rfl)] at hF9
    have hst := strs_of hws hF9
    clear hF9 up9 fr9
    have nD := N8 _ (.head _)
    refine Halt.mk (PyProof.Rows.join_list (listOf_is nD.1) hst ?_ fun t8 k8 => ?_)
    · have := sum_leads ls hls
      rw [show (Str.ofString "").length = 0 from by decide, Nat.mul_zero]
      omega
    have hjl : (Txt.join (Str.ofString "") (ls.map leadOf)).length ≤ 102 := by
      have h1 : (Txt.join (Str.ofString "") (ls.map leadOf)).length = ((ls.map leadOf).flatMap fun x => x.cps.toList).length := by
        rw [← cps_join]; simp [Str.length]
      have h2 := sum_leads ls hls
      rw [h1, List.length_flatMap]
      have h3 : ((ls.map leadOf).map fun x => x.cps.toList.length) = (ls.map leadOf).map (·.length) := by
        apply List.map_congr_left; intro x _; simp [Str.length]
      rw [h3]
      omega
    try dsimp only
    try k_fold
    k_steps
    rename Fr g' L' _ _ => F8
    rename News g' L' _ _ => N8
    refine Halt.mk ?_
    k_dflt (refine' useS (ws_spec w _ _) B' F8 X' N8 T' rfl ?kd ?ku ⟨?pa, ?pb⟩ ?_)
    (case kd => ktr_room); (case ku => ktr_units)
    (case pa =>
      rw [Array.all_eq_true]
      intro i hi
      refine decide_eq_true (leads_ascii ls _ ?_)
      rw [← leads_cps]
      simp)
    (case pb =>
      have h1 : (Txt.join (Str.ofString "") (ls.map leadOf) ++ Str.ofString "x").cps.size = (leadsText ls).length := by rw [← leads_cps]; simp
      rw [h1]
      have h2 := sum_leads ls hls
      have h3 : (leadsText ls).length = ((ls.map leadOf).map (·.length)).sum + 1 := by
        unfold leadsText
        rw [List.length_append, List.length_flatMap, List.map_map]
        have : (ls.map fun x => (List.replicate x 32 ++ [9]).length) = ls.map ((fun x => x.length) ∘ leadOf) := by
          apply List.map_congr_left; intro x _; simp [Str.length, leadOf]
        rw [this]
        rfl
      omega)
    intro r1 h1 tk1 F1 N1 up1 out1
    refine hide ?_
    intro GG bk
    obtain ⟨o, rfl, dx, nm, ct, cv, xx, tx, q1, q2, q3, q4, q5, u1, u2, u3, f1, f2, f3, f4, g1, g2, g3, g4, gI⟩ := out1
    refine bk ?_
    clear bk
    rw [leads_cps] at g2 g3 gI
    have N1 := join F8 f1 g1 (join F8 f2 g2 (join F8 f3 g3 (join F8 f4 g4 N1)))
    clear up1 f1 f2 f3 f4 g1 g2 g3 g4 F8 N8 nD
    try dsimp only
    try k_fold
    k_steps
    rename Fr g' L' _ _ => F8
    refine Halt.mk (compCA F8 (Rcnt ls) (by rfl) (by rfl) (by rfl) (fun _ => by rfl) (fun _ => by rfl) (by rfl) (by decide) (by rfl) (by rfl) (by rfl) ?_)
    k_steps
    rename Fr g' L' _ _ => F8
    rename News g' L' _ _ => N8
    rename IsRange _ _ _ _ _ _ _ _ => R8
    refine Halt.mk (iterRangeC (n := 17) rfl R8 (small_one (by decide) (by decide) (by decide) (by decide)) (by rw [rangeSize_nat]; rfl) (by decide) F8 N8 ?_ ?_)
    · intro C c oC oc i t9 h tk E' hi F9 N9 ne1 ne2 ne3 dc up9
      have dc : oc.data = Data.cell (some (.int ((i : Nat) : Int) t9)) := by rw [dc, Int.zero_add]
      rw [Int.zero_add]
      try dsimp only
      try k_fold
      k_steps
      refine Halt.mk (compE (isAt i) Rany (by rfl) (by decide) (by rfl) (by decide) (by rfl) ?_)
      k_steps
      refine Halt.mk ?_
      rename Fr g' L' _ _ => F7
      rename News g' L' _ _ => N7
      refine iterListU rfl F7 N7 (gL.at fun o e => F7.keep _ o e) hsz6 ⟨?_, ?_⟩ ?_
      · intro C2 oC2 j v2 h2 tk2 m3 E2 hP2 hN2 hx2 F6 N6 ne6 up6
        refine hide ?_
        intro GG bk
        obtain ⟨n, t7, _, rfl, hn⟩ := at6 j v2 hP2
        refine bk ?_
        clear bk
        refine wpAny_tests_one ?_
        try dsimp only
        try k_fold
        k_steps
        exact ⟨rfl, _, _, rfl, fun b o e => e⟩
      · intro C2 oC2 j v2 h2 tk2 m3 E2 hP2 hp2 hN2 hx2 F6 N6 ne6 up6
        refine hide ?_
        intro GG bk
        obtain ⟨n, t7, _, rfl, hn⟩ := at6 j v2 hP2
        refine bk ?_
        clear bk
        try dsimp only
        try k_fold
        k_steps
        exact ⟨⟨_, _, rfl, fun b o e => e⟩, [], ⟨rfl, rfl⟩, by simp⟩
      · intro D2 h2 tk2 k2 ys2 F6 N6 ne6 up6 fr6 hF6
        have hy := any_eq hF6
        have hI2 := ints_isAt i hws
        have hyw : ys2 = List.toArray (ws.filter (isAt i)) := by rw [← Array.toArray_toList (xs := ys2), hy]
        subst hyw
        have hl2 : (ws.filter (isAt i)).length ≤ 6 := Nat.le_trans (List.length_filter_le _ _) hw6
        have hl3 : ((ls.filter fun x => x = i).map (Nat.cast : Nat → Int)).length ≤ 6 := by rw [← hI2.length]; exact hl2
        clear hy hF6 fr6
        have hcnt : (((ws.filter (isAt i)).length : Nat) : Int) = cntAt ls i := by rw [hI2.length, List.length_map]; rfl
        try dsimp only
        try k_fold
        k_steps
        · exact ⟨_, _, rfl, up6⟩
        · exact ⟨i, _, _, rfl, congrArg (Value.int · _) hcnt⟩
    · intro D8 h8 tk8 k8 ys8 vs8 fD8 hl8 hP8 hR8 F9 N9 ne9
      have hI8 := ints_row ls 0 hR8 (fun j v hj => by obtain ⟨t, e⟩ := hP8 j v hj; exact ⟨t, by rw [e, Nat.zero_add]⟩)
      rw [hl8, ← List.range_eq_range'] at hI8
      have hI8 : IntsAre ys8.toList (rowOf ls) := hI8
      generalize hyw8 : ys8.toList = yw8 at hI8
      have hyv8 : ys8 = List.toArray yw8 := by rw [← Array.toArray_toList (xs := ys8), hyw8]
      subst hyv8
      clear hR8 hP8 hyw8
      try dsimp only
      try k_fold
      k_steps
      refine Halt.mk (compE (fun _ => true) Rpow (by rfl) (by decide) (by rfl) (by decide) (by rfl) ?_)
      k_steps
      refine Halt.mk ?_
      rename Fr g' L' _ _ => F7
      rename News g' L' _ _ => N7
      refine iterListE rfl F7 N7 (gL.at fun o e => F7.keep _ o e) hsz6 ⟨?_, ?_⟩ ?_
      · intros; exact wpAny_tests_nil ⟨rfl, _, _, rfl, fun b o e => e⟩
      · intro C2 oC2 j v2 h2 tk2 m3 E2 hP2 hp2 hN2 hx2 F6 N6 ne6 up6
        refine hide ?_
        intro GG bk
        obtain ⟨n, t7, _, rfl, hn⟩ := at6 j v2 hP2
        refine bk ?_
        clear bk
        try dsimp only
        try k_fold
        k_steps
        refine ⟨⟨_, _, rfl, fun b o e => e⟩, [], ⟨n, _, _, rfl, congrArg (Value.int · _) ?_, rfl⟩, by simp⟩
        rw [Int.toNat_natCast]
        simp
      · intro D2 h2 tk2 k2 ys2 F6 N6 ne6 up6 fr6 hF6
        rw [List.filter_eq_self.mpr (fun _ _ => rfl)] at hF6
        have hI2 := ints_pow hws hF6
        generalize hyw : ys2.toList = yw at hI2 hF6
        have hyw2 : ys2 = List.toArray yw := by rw [← Array.toArray_toList (xs := ys2), hyw]
        subst hyw2
        clear hF6 fr6
        try dsimp only
        try k_fold
        k_steps
        rename Fr g' L' _ _ => F5
        rename News g' L' _ _ => N5
        rw [sum_cast]
        have hS : (ls.map fun n => 16 ^ n).sum < 2 ^ 68 := by
          have h1 := sum_pow_lt ls hls
          have h2 : ls.length * 2 ^ 64 ≤ 6 * 2 ^ 64 := Nat.mul_le_mul_right _ hlen
          exact Nat.lt_of_le_of_lt (Nat.le_trans h1 h2) (by decide)
        have hcnt : cntD (ls.map fun n => 16 ^ n).sum 4 ≤ 64 := cntD_le hS (by decide)
        refine Halt.mk ?_
        k_dflt (refine' useT (news := [_, _, _, _, _, _, _, _]) (i2d_spec w _ 4 _ _) B' F5 X' T' rfl hT N5 ?kap ?kd ?ku ⟨by decide, by decide, hcnt⟩ ?_)
        (case kap =>
          refine apart_by hT N5 ?_
          intro p hp vs hvs
          simp only [List.mem_cons, List.not_mem_nil, or_false] at hp
          rcases hp with rfl | rfl | rfl | rfl | rfl | rfl | rfl | rfl <;> first | (rw [dA] at hvs; cases hvs; done) | (cases hvs; done))
        (case kd => ktr_room); (case ku => ktr_units)
        intro r3 h3 tk3 TL3 hT3 F3 N3 ap3 kp3 up3 out3
        refine hide ?_
        intro GG bk
        obtain ⟨dg, wd, kd3, rfl, fdg, odg, hwd⟩ := out3
        refine bk ?_
        clear bk
        simp only [List.cons_append, List.nil_append] at N3
        have ne3 := apart fdg N5
        have N4 := join F5 fdg odg N3
        clear up3 fdg odg F5 N5 N3
        have hwl : wd.length = cntD (ls.map fun n => 16 ^ n).sum 4 := by rw [hwd.length]; exact digs_length ..
        have hwd64 : wd.toArray.size ≤ 16384 := by rw [List.size_toArray, hwl]; exact Nat.le_trans hcnt (by decide)
        try dsimp only
        try k_fold
        k_steps
        rename Fr g' L' _ _ => F5
        rename News g' L' _ _ => N5
        have z1 := N5.get (a := nm) (by k_mem)
        have z1 := tup_is z1
        have z2 := N5.get (a := ct) (by k_mem)
        have z2 := tup_is z2
        have z3 := tup_is (N5 _ (.head _)).1
        have z4 := tup_is (N5 _ (.tail _ (.head _))).1
        refine Halt.mk (ne_norm z1 z2 gI z3 z4 hwd (by ktr_units) ?_)
        clear z1 z2 z3 z4
        have hrun := run_leads ls
        have hcd : (wsRun (leadsText ls)).cnt = digsOf (ls.map fun n => 16 ^ n).sum 4 := by rw [hrun, lights_digs hls hlen, counts_trim hls]
        have hb0 : (((wsRun (leadsText ls)).b : Nat) : Int) = 0 := by rw [hrun]; rfl
        rw [hcd, hb0]
        simp only [decide_true, Bool.and_self, Bool.not_true]
        try dsimp only
        try k_fold
        k_steps
        rename Fr g' L' _ _ => F5
        rename News g' L' _ _ => N5
        have hr17 : (rowOf ls).length ≤ 100 := by unfold rowOf; rw [List.length_map, List.length_range]; decide
        have gD8 := N5.get (a := D8) (by k_mem)
        refine Halt.mk ?_
        k_dflt (refine' useS (trimmed_spec w D8 yw8 (rowOf ls)) B' F5 X' N5 T' rfl ?kd ?ku ⟨listOf_is gD8, hI8, hr17⟩ ?_)
        (case kd => ktr_room); (case ku => ktr_units)
        intro r4 h4 tk4 F4 N4 up4 out4
        refine hide ?_
        intro GG bk
        obtain ⟨dt, wt, kt, rfl, fdt, odt, hwt⟩ := out4
        refine bk ?_
        clear bk
        have N4 := join F5 fdt odt N4
        clear up4 fdt odt F5 N5 gD8
        try dsimp only
        try k_fold
        k_steps
        have gdt := N4.get (a := dt) (by k_mem)
        have gdg := N4.get (a := dg) (by k_mem)
        refine Halt.mk (ke_ne_ints (listOf_is gdg) (listOf_is gdt) hwd hwt (by ktr_units) ?_)
        rw [lights_digs hls hlen]
        simp only [decide_true, Bool.not_true]
        clear gdt gdg z1 z2
        have hn9 : (((wsRun (leadsText ls)).n : Nat) : Int) = ((ls.sum : Nat) : Int) + ((ls.length : Nat) : Int) := by rw [hrun]; simp
        have hnt9 : (((wsRun (leadsText ls)).nt : Nat) : Int) = ((ls.length : Nat) : Int) := by rw [hrun]
        have hsm9 : (ls.map (Nat.cast : Nat → Int)).sum = ((ls.sum : Nat) : Int) := by rw [sum_cast (fun n => n) ls]; simp
        have hwl9 : ((ws.length : Nat) : Int) = ((ls.length : Nat) : Int) := by rw [hws.length, List.length_map]
        have gL4 : h4.IsList l ws.toArray := gL.at fun o e => F4.keep _ o e
        try dsimp only
        try k_fold
        k_steps
        · rename _ ≠ _ => hne
          rw [List.length_map] at hne
          omega
        · rename _ ≠ _ => hne
          rw [List.length_map] at hne
          omega
        · rename Fr g' _ _ _ => F7
          rename News g' L' _ _ => N7
          have NT' : News g' L' _ TL3 := fun q hq => N7 q (List.mem_append_right [_, _, _, _, _, _, _, _, _, _, _, _] hq)
          have nD8 := N7 (D8, _) (by k_mem)
          refine hret _ _ _ TL3 hT3 (News.down FG' NT') (Grew.of hG NT') kp3 (UpOff.of hG F7) ⟨D8, yw8, _, rfl, fresh_of hG (fun hm => ?_) nD8.2.2, nD8.1, hI8⟩
          refine hide ?_
          intro GG bk
          obtain ⟨r, hr, e⟩ := List.mem_map.mp hm
          refine bk ?_
          clear bk
          exact ne9 r (List.mem_append_right [_, _, _, _, _, _] hr) e
end
end
section
open PySem PySem.W PyProof.Rows PySem.Spec PySem.Calls
section
/-- a turn's end where the ledger's addresses stay -/
def ZipEnd (h₀ : Heap) (L : Addr) (J : (Str → Option Value) → List (Addr × Obj) → Prop) (ad : List Addr) (T : List (Addr × Obj)) (s₁ : Shared) (Q : Flow → Shared → Prop) (f : Flow) (s₂ : Shared) : Prop :=
  match f with
  | .ret v => Q (.ret v) s₂
  | .brk => Q .next s₂
  | _ => ∃ h' tk m' nw', s₂ = { s₁ with heap := h', toks := tk } ∧ Fr h₀ L h' m' ∧ News h₀ L h' (nw' ++ T) ∧ nw'.map (·.1) = ad ∧ J m' nw'
theorem ZipEnd.intro {h₀ : Heap} {L : Addr} {J : (Str → Option Value) → List (Addr × Obj) → Prop} {ad : List Addr} {T nw' : List (Addr × Obj)} {s₁ : Shared} {Q : Flow → Shared → Prop} {h' : Heap} {tk : Nat} {m' : Str → Option Value} (F : Fr h₀ L h' m') (N : News h₀ L h' (nw' ++ T)) (ha : nw'.map (·.1) = ad) (j : J m' nw') :
    ZipEnd h₀ L J ad T s₁ Q .next { s₁ with heap := h', toks := tk } := ⟨h', tk, m', nw', rfl, F, N, ha, j⟩
section
variable {prog : Program} {w : World} {A : Around} {E : Value → Shared → Prop} {s : Shared} {env : Env} {h₀ : Heap} {xi xc : Str} {body : List Stmt} {Q : Flow → Shared → Prop}
theorem forZip {l1 l2 : Addr} {xs ys : Array Value} {m₀ : Str → Option Value} {nw : List (Addr × Obj)} (hh : A.handled = none) (hl1 : s.heap.IsList l1 xs) (hl2 : s.heap.IsList l2 ys) (F : Fr h₀ env.locals s.heap m₀) (N : News h₀ env.locals s.heap nw)
    (J : Nat → (Str → Option Value) → List (Addr × Obj) → Prop) (h0 : J 0 m₀ nw)
    (turn : ∀ i v0 v1 m₁ nw₁ h tk T, xs[i]? = some v0 → ys[i]? = some v1 → J i m₁ nw₁ → nw₁.map (·.1) = nw.map (·.1) → (∀ q ∈ T, q.1 = l1 ∨ q.1 = l2 ∨ s.heap.get? q.1 = none) →
      Fr h₀ env.locals h (fun y => if y = xc then some v1 else if y = xi then some v0 else m₁ y) → News h₀ env.locals h (nw₁ ++ T) →
      wpAny (model prog w) A (execs body env) (ZipEnd h₀ env.locals (J (i + 1)) (nw.map (·.1)) T { s with heap := h, toks := tk } Q) E { s with heap := h, toks := tk })
    (done : ∀ m₁ nw₁ h tk, J (min xs.size ys.size) m₁ nw₁ → nw₁.map (·.1) = nw.map (·.1) → Fr h₀ env.locals h m₁ → News h₀ env.locals h nw₁ → Q .next { s with heap := h, toks := tk }) :
    wpAny (model prog w) A (call (.type "zip") [.ref l1, .ref l2]) (fun xv s₁ => wpAny (model prog w) A (pyIter xv) (fun it s₂ => PairAt3 prog w A h₀ env xi xc body Q E it s₂) E s₁) E s := by
  refine hide ?_
  intro GG bk
  obtain ⟨o1, ho1, _, _, hd1⟩ := id hl1
  obtain ⟨o2, ho2, _, _, hd2⟩ := id hl2
  refine bk ?_
  clear bk
  have b1 := Heap.lt_size ho1
  have b2 := Heap.lt_size ho2
  refine hide ?_
  intro GG bk
  obtain ⟨oL, _, _, hoL, hdL, _⟩ := F.ns
  refine bk ?_
  clear bk
  have bL := Heap.lt_size hoL
  have n1 : env.locals ≠ l1 := fun e => by rw [e, ho1] at hoL; rw [← Option.some.inj hoL, hd1] at hdL; cases hdL
  have n2 : env.locals ≠ l2 := fun e => by rw [e, ho2] at hoL; rw [← Option.some.inj hoL, hd2] at hdL; cases hdL
  refine call_zip_2 hl1 hl2 fun h' hz hTI hTO hi1 hi2 hsz up => ?_
  have fr : ∀ k, s.heap.get? (s.heap.objs.size + k) = none := fun k => Heap.get?_none_of_le (Nat.le_add_right _ _)
  have nbr : ∀ q ∈ nw, @LT.lt Nat _ q.1 s.heap.objs.size := fun q hq => Heap.lt_size (N q hq).1
  have f0 : ∀ b, s.heap.get? b = none → h₀.get? b = none := fun b hb => by
    cases e : h₀.get? b with
    | none => rfl
    | some o => rw [F.keep _ _ e] at hb; cases hb
  have frS : s.heap.get? s.heap.objs.size = none := fr 0
  generalize hS : s.heap.objs.size = S at *
  have b1 := ltN b1
  have b2 := ltN b2
  have bL := ltN bL
  have D : ZipApart (S + 4) (S + 2) (S + 3) S (S + 1) l1 l2 := by
    constructor <;> (refine neN ?_; omega)
  have W := WalksT.zip2 (prog := prog) (w := w) hh (S + 4) (S + 2) (S + 3) S (S + 1) l1 l2 D xs ys
  have hst : _ := (⟨hz, hTI, ⟨_, _, hTO⟩, hi1, hi2, hl1.at fun o e => up _ o e, hl2.at fun o e => up _ o e⟩ : IsZip h' (S + 4) (S + 2) (S + 3) .none ∧ IsPair h' (S + 2) (.ref S) (.ref (S + 1)) ∧ (∃ a b, IsPair h' (S + 3) a b) ∧ h'.IsListIter S l1 0 ∧ h'.IsListIter (S + 1) l2 0 ∧ h'.IsList l1 xs ∧ h'.IsList l2 ys)
  refine W.self 0 _ _ _ hst ⟨_, _, _, _, _, _, _, fun i v0 v1 => xs[i]? = some v0 ∧ ys[i]? = some v1, m₀, nw, J, rfl, W, ?_, ?_, ?_, ?_, hst, F.keeps up, N.grown up, h0, ?_, ?_⟩
  · intro i vals HH2
    refine hide ?_
    intro GG bk
    obtain ⟨x, y, hx, hy, rfl⟩ := HH2
    refine bk ?_
    clear bk
    exact ⟨x, y, rfl, hx, hy⟩
  · simp only [List.mem_cons, List.not_mem_nil, or_false, not_or]
    refine ⟨?_, ?_, ?_, ?_, ?_, n1, n2⟩ <;> (refine neN ?_; omega)
  · intro b hb
    simp only [List.mem_cons, List.not_mem_nil, or_false] at hb
    rcases hb with rfl | rfl | rfl | rfl
    · exact f0 _ (fr 4)
    · exact f0 _ (fr 3)
    · exact f0 _ frS
    · exact f0 _ (fr 1)
  · intro q hq hb
    have := nbr q hq
    simp only [List.mem_cons, List.not_mem_nil, or_false] at hb
    rcases hb with e | e | e | e <;> (rw [e] at this; have this := ltN this; omega)
  · intro i v0 v1 m₁ nw₁ s₁ own HH7 hi HH9 hj hmap hown F₁ N₁
    refine hide ?_
    intro GG bk
    obtain ⟨h, tk, rfl⟩ := HH7
    obtain ⟨hx, hy⟩ := HH9
    refine bk ?_
    clear bk
    have hT : ∀ q ∈ own, q.1 = l1 ∨ q.1 = l2 ∨ s.heap.get? q.1 = none := fun q hq => by
      have := hown q hq
      simp only [List.mem_cons, List.not_mem_nil, or_false] at this
      rcases this with e | e | e | e | e | e | e
      · exact .inr (.inr (by rw [e]; exact fr 4))
      · exact .inr (.inr (by rw [e]; exact fr 2))
      · exact .inr (.inr (by rw [e]; exact fr 3))
      · exact .inr (.inr (by rw [e]; exact frS))
      · exact .inr (.inr (by rw [e]; exact fr 1))
      · exact .inl e
      · exact .inr (.inl e)
    refine wpAny_mono (turn i v0 v1 m₁ nw₁ h tk own hx hy hj hmap hT F₁ fun q hq => N₁ q (List.mem_append.mpr (List.mem_append.mp hq).symm)) (fun f s₂ r => ?_) fun _ _ e => e
    have fin : (∃ h' tk' m' nw', s₂ = { ({ s with heap := h, toks := tk } : Shared) with heap := h', toks := tk' } ∧ Fr h₀ env.locals h' m' ∧ News h₀ env.locals h' (nw' ++ own) ∧ nw'.map (·.1) = nw.map (·.1) ∧ J (i + 1) m' nw') →
        LoopStep2 h₀ env.locals own nw₁ (J (i + 1)) { s with heap := h, toks := tk } .next s₂ := by
      intro HH0
      refine hide ?_
      intro GG bk
      obtain ⟨h', tk', m', nw', e, F', N', hm, j⟩ := HH0
      refine bk ?_
      clear bk
      exact ⟨rfl, h', tk', m', nw', e, F', (fun q hq => N' q (List.mem_append.mpr (List.mem_append.mp hq).symm)), hm.trans hmap.symm, j⟩
    cases f with
    | ret v => exact r
    | brk => exact r
    | next => exact fin r
    | cont => exact fin r
  · intro h'' tk m' nw' F' N' hm j
    exact done m' nw' h'' tk j hm F' N'
end
end
end
section
open PySem PySem.W PyProof.Rows PySem.Spec PySem.Calls
section
theorem top_off_F18 : True := by
  w_top off
  k_with_none
  trivial
theorem lines_F18_1 : True := by
  (k_with "mine subscriptTail Name Constant ref int" => (k_here; (with_reducible show wpAny _ _ (subscriptTail _ _ (Value.ref _) (Value.int _ _)) _ _ _); (with_unfolding_all refine' item_base ?k1_h ?k2_h ?k3_h ?k4_h ?k5_h ?_ ?k6_h; (case k1_h => k_asm); (case k2_h => assumption); (case k3_h => decide); (case k4_h => decide); (case k5_h => first | exact at3_0 | exact at3_1 | exact at3_2); (case k6_h => with_unfolding_all rfl); k_whole)))
  (k_with "mine call builtin:min" => (k_here; (with_reducible show wpAny _ _ (call (Value.builtin _) [Value.ref _]) _ _ _); k_dflt (refine' minLK ?k1_h ?k2_h ?k3_h ?k4_h ?_; (case k1_h => k_asm); (case k2_h => k_asm); (case k3_h => exact rfl); (case k4_h => assumption); k_whole); intro y_q h_q tk_q F_q N_q; (try dsimp only); (try k_sweep)))
  (k_with "mine call builtin:max" => (k_here; (with_reducible show wpAny _ _ (call (Value.builtin _) [Value.ref _]) _ _ _); k_dflt (refine' maxLK ?k1_h ?k2_h ?k3_h ?k4_h ?_; (case k1_h => k_asm); (case k2_h => k_asm); (case k3_h => exact rfl); (case k4_h => assumption); k_whole); intro y_q h_q tk_q F_q N_q; (try dsimp only); (try k_sweep)))
  (k_with "mine eval ListComp" => (k_here; refine Halt.out ?_))
  (k_with "mine exec Assign cons ListComp" => (k_here; refine Halt.out ?_))
  (k_with "mine pyIter ref" => (k_here; refine Halt.out ?_))
  (k_with "mine compareOp NotEq ref ref" => (k_here; k_dflt (refine' ke_ne_ints ?k1_h ?k2_h ?k3_h ?k4_h ?k5_h ?_; (case k1_h => (first | exact Heap.IsList.at (by assumption) (fun o e => Fr.keep (by assumption) _ o e) | exact listOf_is (News.get (by assumption) (by k_mem)))); (case k2_h => (first | exact Heap.IsList.at (by assumption) (fun o e => Fr.keep (by assumption) _ o e) | exact listOf_is (News.get (by assumption) (by k_mem)))); (case k3_h => (first | exact ints3 | exact IntsAre.nil | assumption)); (case k4_h => (first | exact ints3 | exact IntsAre.nil | assumption)); (case k5_h => ktr_units); k_whole)))
  (k_with "mine compareOp Eq ref ref" => (k_here; k_dflt (refine' ke_eq_ints ?k1_h ?k2_h ?k3_h ?k4_h ?k5_h ?_; (case k1_h => (first | exact Heap.IsList.at (by assumption) (fun o e => Fr.keep (by assumption) _ o e) | exact listOf_is (News.get (by assumption) (by k_mem)))); (case k2_h => (first | exact Heap.IsList.at (by assumption) (fun o e => Fr.keep (by assumption) _ o e) | exact listOf_is (News.get (by assumption) (by k_mem)))); (case k3_h => (first | exact ints3 | exact IntsAre.nil | assumption)); (case k4_h => (first | exact ints3 | exact IntsAre.nil | assumption)); (case k5_h => ktr_units); k_whole)))
  trivial
theorem str_ext2 {a b : Str} (h : a.cps.toList = b.cps.toList) : a = b := by
  cases a; cases b
  simp only [Str.mk.injEq]
  exact Array.toList_inj.mp h
/-- the text of a lead of its own -/
def pairText (e n : Nat) : List Nat := List.replicate e 32 ++ ([9] ++ (List.replicate n 32 ++ [120, 9, 32]))
def stP (e n : Nat) : WsSt := ⟨bump [] e, n, e + 1 + n, 1⟩
theorem run_pair (e n : Nat) : wsRun (pairText e n) = stP e n := by
  unfold wsRun pairText
  have h1 : (List.replicate e 32 ++ ([9] ++ (List.replicate n 32 ++ [120, 9, 32]))).takeWhile (fun c => c = 32 || c = 9) = (List.replicate e 32 ++ [9]) ++ List.replicate n 32 := by
    rw [← List.append_assoc, ← List.append_assoc, List.takeWhile_append_of_pos]
    · have : ([120, 9, 32] : List Nat).takeWhile (fun c => c = 32 || c = 9) = [] := by decide
      rw [this, List.append_nil]
    · intro c hc
      simp only [List.mem_append, List.mem_singleton] at hc
      rcases hc with (hc | hc) | hc
      · rw [(List.mem_replicate.mp hc).2]; decide
      · rw [hc]; decide
      · rw [(List.mem_replicate.mp hc).2]; decide
  rw [h1, List.foldl_append, step_lead, step_blanks]
  simp [stP]
theorem pair_cps (e n : Nat) : (Txt.mul (Str.ofString " ") ((e : Nat) : Int) ++ Str.ofString "\t" ++ Txt.mul (Str.ofString " ") ((n : Nat) : Int) ++ Str.ofString "x\t ").cps.toList = pairText e n := by
  rw [Str.cps_append, Array.toList_append, Str.cps_append, Array.toList_append, Str.cps_append, Array.toList_append, show Str.ofString " " = ⟨#[32]⟩ from by decide, PyProof.Rows.mul_one_list, PyProof.Rows.mul_one_list, Int.toNat_natCast, Int.toNat_natCast]
  unfold pairText
  rw [List.append_assoc, List.append_assoc]
  rfl
theorem pair_ascii (e n : Nat) : ∀ c ∈ pairText e n, c < 128 := by
  intro c hc
  unfold pairText at hc
  simp only [List.mem_append, List.mem_cons, List.not_mem_nil, or_false] at hc
  rcases hc with hc | hc | hc | hc | hc | hc
  · rw [(List.mem_replicate.mp hc).2]; decide
  · rw [hc]; decide
  · rw [(List.mem_replicate.mp hc).2]; decide
  · rw [hc]; decide
  · rw [hc]; decide
  · rw [hc]; decide
/-- the objects of a lead -/
def LeadIn (w : World) (objs : List (Addr × Obj)) (st : WsSt) (o : Addr) : Prop :=
  ∃ dx nm ct cv x t k1 k2 k3 k4 k5 t1 t2 t3, (o, instObj 146 dx) ∈ objs ∧ (dx, wsDict w x t st nm k1 k2 k3 k4 k5 t1 t2) ∈ objs ∧ (nm, tup [.ref ct, .int ((st.b : Nat) : Int) t3]) ∈ objs ∧ (ct, tup cv) ∈ objs ∧ IntsAre cv st.cnt
theorem LeadIn.sub {w : World} {a b : List (Addr × Obj)} {st : WsSt} {o : Addr} (h : LeadIn w a st o) (hs : ∀ q ∈ a, q ∈ b) : LeadIn w b st o := by
  obtain ⟨dx, nm, ct, cv, x, t, k1, k2, k3, k4, k5, t1, t2, t3, a1, a2, a3, a4, a5⟩ := h
  exact ⟨dx, nm, ct, cv, x, t, k1, k2, k3, k4, k5, t1, t2, t3, hs _ a1, hs _ a2, hs _ a3, hs _ a4, a5⟩
theorem LeadIn.at {w : World} {g h : Heap} {L : Addr} {a news : List (Addr × Obj)} {st : WsSt} {o : Addr} (W : LeadIn w a st o) (N : News g L h news) (hs : ∀ q ∈ a, q ∈ news) : WsAt w st h o := by
  obtain ⟨dx, nm, ct, cv, x, t, k1, k2, k3, k4, k5, t1, t2, t3, a1, a2, a3, a4, a5⟩ := W
  exact ⟨dx, nm, ct, cv, x, t, k1, k2, k3, k4, k5, t1, t2, t3, (N _ (hs _ a1)).1, (N _ (hs _ a2)).1, (N _ (hs _ a3)).1, (N _ (hs _ a4)).1, a5⟩
def Rws (w : World) (e : Nat) (v y : Value) (objs : List (Addr × Obj)) : Prop := ∃ (n : Nat) (t : Tok) (o : Addr), v = .int ((n : Nat) : Int) t ∧ y = .ref o ∧ LeadIn w objs (stP e n) o
theorem leads_of {w : World} {e : Nat} {H h' : Heap} {no : Addr → Prop} : ∀ {ws ys : List Value} {ls : List Nat}, IntsAre ws (ls.map Nat.cast) → Paired (Brought H h' no (Rws w e)) ws ys →
    ∃ objs os, ys = os.map Value.ref ∧ (∀ q ∈ objs, h'.get? q.1 = some q.2 ∧ H.get? q.1 = none ∧ ¬ no q.1) ∧ Paired (fun (o : Addr) (n : Nat) => LeadIn w objs (stP e n) o) os ls
  | _, _, [], hi, h => by cases hi; cases h; exact ⟨[], [], rfl, by simp, .nil⟩
  | _, _, n :: r, hi, h => by
    cases hi with
    | cons _ t hi =>
      cases h with
      | cons a b =>
        obtain ⟨objs1, ⟨n', t', o, e1, rfl, hl⟩, ho⟩ := a
        injection e1 with e1 _
        have e2 : n = n' := by omega
        subst e2
        obtain ⟨objs2, os, rfl, h2, h3⟩ := leads_of hi b
        refine ⟨objs1 ++ objs2, o :: os, rfl, fun q hq => ?_, .cons (hl.sub fun q hq => List.mem_append_left _ hq) (Paired.imp (fun _ _ x => x.sub fun q hq => List.mem_append_right _ hq) h3)⟩
        rcases List.mem_append.mp hq with hq | hq
        · exact ho q hq
        · exact h2 q hq
theorem joinL {h₀ H h' : Heap} {L : Addr} {m : Str → Option Value} {objs news : List (Addr × Obj)} (F : Fr h₀ L H m) (ho : ∀ q ∈ objs, h'.get? q.1 = some q.2 ∧ H.get? q.1 = none) (N : News h₀ L h' news) : News h₀ L h' (objs ++ news) := fun q hq => by
  rcases List.mem_append.mp hq with hq | hq
  · exact join F (ho q hq).2 (ho q hq).1 N _ (List.mem_cons_self ..)
  · exact N q hq
/-- of the pairs the ones whose first is less, and the others -/
def lowOf (P : List (Nat × Nat)) : List Nat := (P.filter fun p => p.1 < p.2).map fun p => 16 + p.1 - p.2
def highOf (P : List (Nat × Nat)) : List Nat := (P.filter fun p => ¬ p.1 < p.2).map fun p => p.1 - p.2
theorem rowN_len (m : Nat) (L : List Nat) : ((rowN m L).map (Nat.cast : Nat → Int)).length = m := by simp [rowN]
theorem rowN_snoc {m x : Nat} (L : List Nat) (hx : x < m) : ((rowN m L).map (Nat.cast : Nat → Int)).set x (((rowN m L).map (Nat.cast : Nat → Int)).getD x 0 + 1) = (rowN m (L ++ [x])).map Nat.cast := by
  apply List.ext_getElem
  · simp [rowN]
  · intro i h1 h2
    have hi : i < m := by simpa [rowN] using h2
    by_cases e : x = i
    · subst e
      rw [List.getElem_set_self]
      simp [rowN, List.getD, hi, List.filter_append]
    · rw [List.getElem_set_ne e]
      simp [rowN, List.filter_append, List.filter_cons, e]
theorem rowN_set {m x : Nat} {k : Int} {L L' : List Nat} (hk : k = (x : Int)) (hx : x < m) (hL : L' = L ++ [x]) : ((rowN m L).map (Nat.cast : Nat → Int)).set k.toNat (((rowN m L).map (Nat.cast : Nat → Int)).getD k.toNat 0 + 1) = (rowN m L').map Nat.cast := by
  subst hk hL
  rw [Int.toNat_natCast, rowN_snoc _ hx]
theorem low_snoc {P : List (Nat × Nat)} {a b : Nat} (h : a < b) : lowOf (P ++ [(a, b)]) = lowOf P ++ [16 + a - b] := by simp [lowOf, h]
theorem low_same {P : List (Nat × Nat)} {a b : Nat} (h : ¬ a < b) : lowOf (P ++ [(a, b)]) = lowOf P := by simp [lowOf, h]
theorem high_snoc {P : List (Nat × Nat)} {a b : Nat} (h : ¬ a < b) : highOf (P ++ [(a, b)]) = highOf P ++ [a - b] := by
  have h' : b ≤ a := by omega
  simp [highOf, h']
theorem high_same {P : List (Nat × Nat)} {a b : Nat} (h : a < b) : highOf (P ++ [(a, b)]) = highOf P := by
  simp [highOf, h]
theorem pairs_turn {P P1 : List (Nat × Nat)} {ls : List Nat} {a b j : Nat} (h : P ++ List.map (fun b => (a, b)) (List.take j ls) = P1) (hb : ls[j]? = some b) : P ++ List.map (fun b => (a, b)) (List.take (j + 1) ls) = P1 ++ [(a, b)] := by
  rw [List.take_add_one, hb, Option.toList_some, List.map_append, ← List.append_assoc, h]; rfl
theorem pairs_row {P : List (Nat × Nat)} {ls : List Nat} {a i : Nat} (h : List.flatMap (fun a => ls.map fun b => (a, b)) (List.take i ls) = P) (ha : ls[i]? = some a) : List.flatMap (fun a => ls.map fun b => (a, b)) (List.take (i + 1) ls) = P ++ ls.map fun b => (a, b) := by
  rw [List.take_add_one, ha, Option.toList_some, List.flatMap_append, h]; simp
theorem ix_lt {a b : Nat} (h : ((a : Nat) : Int) + 8 - (((b : Nat) : Int) + 8) < 0) : a < b := by omega
theorem ix_ge {a b : Nat} (h : ¬ ((a : Nat) : Int) + 8 - (((b : Nat) : Int) + 8) < 0) : ¬ a < b := by omega
theorem ixl0 {a b : Nat} (h : b ≤ 16) : (0 : Int) ≤ 16 + (((a : Nat) : Int) + 8 - (((b : Nat) : Int) + 8)) := by omega
theorem ixl1 {a b : Nat} (h : a < b) (P : List Nat) : (16 + (((a : Nat) : Int) + 8 - (((b : Nat) : Int) + 8)) : Int) < (((rowN 16 P).map (Nat.cast : Nat → Int)).length : Nat) := by rw [rowN_len]; omega
theorem ixl2 {a b : Nat} (h : a < b) : (16 + (((a : Nat) : Int) + 8 - (((b : Nat) : Int) + 8)) : Int) < 2 ^ 63 := by omega
theorem ixl3 {a b : Nat} (h : b ≤ 16) : 16 + (((a : Nat) : Int) + 8 - (((b : Nat) : Int) + 8)) = ((16 + a - b : Nat) : Int) := by omega
theorem ixl4 {a b : Nat} (h : a < b) (h' : b ≤ 16) : 16 + a - b < 16 := by omega
theorem ixg0 {a b : Nat} (h : ¬ a < b) : (0 : Int) ≤ ((a : Nat) : Int) + 8 - (((b : Nat) : Int) + 8) := by omega
theorem ixg1 {a b : Nat} (h : a ≤ 16) (P : List Nat) : (((a : Nat) : Int) + 8 - (((b : Nat) : Int) + 8) : Int) < (((rowN 17 P).map (Nat.cast : Nat → Int)).length : Nat) := by rw [rowN_len]; omega
theorem ixg2 {a b : Nat} (h : a ≤ 16) : (((a : Nat) : Int) + 8 - (((b : Nat) : Int) + 8) : Int) < 2 ^ 63 := by omega
theorem ixg3 {a b : Nat} (h : ¬ a < b) : ((a : Nat) : Int) + 8 - (((b : Nat) : Int) + 8) = ((a - b : Nat) : Int) := by omega
theorem ixg4 {a b : Nat} (h : a ≤ 16) : a - b < 17 := by omega
abbrev prOut : List Str := [Str.ofString "one", Str.ofString "light", Str.ofString "two", Str.ofString "other", Str.ofString "apart", Str.ofString "pairs"]
abbrev prIn : List Str := [Str.ofString "two", Str.ofString "other", Str.ofString "apart", Str.ofString "pairs"]
/-- between the turns of both loops -/
def Jp (nm : List Str) (m₀ : Str → Option Value) (bw aw : Addr) (rest : List (Addr × Obj)) (P : List (Nat × Nat)) (m₁ : Str → Option Value) (nw : List (Addr × Obj)) : Prop :=
  ∃ (tp : Tok) (wb wa : List Value) (kb ka : Nat), m₁ (Str.ofString "pairs") = some (.int (((lowOf P).length : Nat) : Int) tp) ∧ (∀ y, y ∉ nm → m₁ y = m₀ y) ∧ nw = (bw, W.listOf (List.toArray wb) kb) :: (aw, W.listOf (List.toArray wa) ka) :: rest ∧
    IntsAre wb ((rowN 16 (lowOf P)).map Nat.cast) ∧ IntsAre wa ((rowN 17 (highOf P)).map Nat.cast)
def JpF (nm : List Str) (m₀ : Str → Option Value) (bw aw : Addr) (rest : List (Addr × Obj)) (Pf : Nat → List (Nat × Nat)) (j : Nat) : (Str → Option Value) → List (Addr × Obj) → Prop := Jp nm m₀ bw aw rest (Pf j)
theorem Jp.zero {nm : List Str} {m₀ : Str → Option Value} {bw aw : Addr} {rest : List (Addr × Obj)} {P : List (Nat × Nat)} {t : Tok} {wb wa : List Value} {kb ka : Nat} (hP : P = []) (h : m₀ (Str.ofString "pairs") = some (.int 0 t)) (ib : IntsAre wb ((rowN 16 (lowOf [])).map Nat.cast)) (ia : IntsAre wa ((rowN 17 (highOf [])).map Nat.cast)) :
    Jp nm m₀ bw aw rest P m₀ ((bw, W.listOf (List.toArray wb) kb) :: (aw, W.listOf (List.toArray wa) ka) :: rest) := by
  subst hP
  exact ⟨t, wb, wa, kb, ka, h, fun _ _ => rfl, rfl, ib, ia⟩
abbrev prM (u1 u2 u3 : Option Value) (pv : Value) (m₀ : Str → Option Value) : Str → Option Value := fun y => if y = Str.ofString "apart" then u1 else if y = Str.ofString "two" then u2 else if y = Str.ofString "other" then u3 else if y = Str.ofString "pairs" then some pv else m₀ y
theorem prM_ext {f m₀ : Str → Option Value} {pv : Value} (h1 : f (Str.ofString "pairs") = some pv) (hr : ∀ y, y ∉ prIn → f y = m₀ y) : f = prM (f (Str.ofString "apart")) (f (Str.ofString "two")) (f (Str.ofString "other")) pv m₀ := by
  funext y
  unfold prM
  by_cases e1 : y = Str.ofString "apart"
  · rw [if_pos e1, e1]
  rw [if_neg e1]
  by_cases e2 : y = Str.ofString "two"
  · rw [if_pos e2, e2]
  rw [if_neg e2]
  by_cases e3 : y = Str.ofString "other"
  · rw [if_pos e3, e3]
  rw [if_neg e3]
  by_cases e4 : y = Str.ofString "pairs"
  · rw [if_pos e4, e4, h1]
  rw [if_neg e4]
  exact hr y (by simp [e1, e2, e3, e4])
abbrev prO (v1 v2 u1 u2 u3 : Option Value) (pv : Value) (m₀ : Str → Option Value) : Str → Option Value := fun y => if y = Str.ofString "one" then v1 else if y = Str.ofString "light" then v2 else if y = Str.ofString "apart" then u1 else if y = Str.ofString "two" then u2 else if y = Str.ofString "other" then u3 else if y = Str.ofString "pairs" then some pv else m₀ y
theorem prO_ext {f m₀ : Str → Option Value} {pv : Value} (h1 : f (Str.ofString "pairs") = some pv) (hr : ∀ y, y ∉ prOut → f y = m₀ y) : f = prO (f (Str.ofString "one")) (f (Str.ofString "light")) (f (Str.ofString "apart")) (f (Str.ofString "two")) (f (Str.ofString "other")) pv m₀ := by
  funext y
  unfold prO
  by_cases e5 : y = Str.ofString "one"
  · rw [if_pos e5, e5]
  rw [if_neg e5]
  by_cases e6 : y = Str.ofString "light"
  · rw [if_pos e6, e6]
  rw [if_neg e6]
  by_cases e1 : y = Str.ofString "apart"
  · rw [if_pos e1, e1]
  rw [if_neg e1]
  by_cases e2 : y = Str.ofString "two"
  · rw [if_pos e2, e2]
  rw [if_neg e2]
  by_cases e3 : y = Str.ofString "other"
  · rw [if_pos e3, e3]
  rw [if_neg e3]
  by_cases e4 : y = Str.ofString "pairs"
  · rw [if_pos e4, e4, h1]
  rw [if_neg e4]
  exact hr y (by simp [e1, e2, e3, e4, e5, e6])
theorem Jp.start {nm : List Str} {m₀ m₁ : Str → Option Value} {bw aw : Addr} {rest : List (Addr × Obj)} {P P' : List (Nat × Nat)} {wb wa : List Value} {kb ka : Nat} (hP : P' = P) (h : ∃ t, m₁ (Str.ofString "pairs") = some (.int (((lowOf P).length : Nat) : Int) t)) (hr : ∀ y, y ∉ nm → m₁ y = m₀ y) (ib : IntsAre wb ((rowN 16 (lowOf P)).map Nat.cast)) (ia : IntsAre wa ((rowN 17 (highOf P)).map Nat.cast)) :
    Jp nm m₀ bw aw rest P' m₁ ((bw, W.listOf (List.toArray wb) kb) :: (aw, W.listOf (List.toArray wa) ka) :: rest) := by
  subst hP
  obtain ⟨t, h⟩ := h
  exact ⟨t, wb, wa, kb, ka, h, hr, rfl, ib, ia⟩
theorem paired_at {α β : Type} {R : α → β → Prop} : ∀ {as : List α} {bs : List β} (_ : Paired R as bs) {i : Nat} {a : α} {b : β} (_ : as[i]? = some a) (_ : bs[i]? = some b), R a b
  | _, _, .nil, _, _, _, h, _ => by simp at h
  | _, _, .cons x t, 0, _, _, h1, h2 => by simp at h1 h2; subst h1 h2; exact x
  | _, _, .cons x t, i + 1, _, _, h1, h2 => paired_at t (i := i) (by simpa using h1) (by simpa using h2)
theorem ref_at {os : List Addr} {i : Nat} {v : Value} (h : (os.map Value.ref).toArray[i]? = some v) : ∃ o, os[i]? = some o ∧ v = .ref o := by
  have h' : (os.map Value.ref)[i]? = some v := by simpa using h
  rw [List.getElem?_map] at h'
  cases e : os[i]? with
  | none => rw [e] at h'; cases h'
  | some o => rw [e] at h'; exact ⟨o, rfl, (Option.some.inj h').symm⟩
theorem offT {H : Heap} {D l b : Addr} {o : Obj} {T : List (Addr × Obj)} (hT : ∀ q ∈ T, q.1 = D ∨ q.1 = l ∨ H.get? q.1 = none) (hb : H.get? b = some o) (h1 : b ≠ D) (h2 : b ≠ l) : ∀ q ∈ T, q.1 ≠ b := fun q hq e => by
  rcases hT q hq with h | h | h
  · exact h1 (e.symm.trans h)
  · exact h2 (e.symm.trans h)
  · rw [e, hb] at h; cases h
theorem pickL {g h : Heap} {L : Addr} {a b c d e f k : Addr × Obj} {objs : List (Addr × Obj)} (N : News g L h (a :: b :: c :: d :: e :: f :: k :: objs)) (h1 : @LT.lt Nat _ d.1 b.1) (h2 : @LT.lt Nat _ f.1 d.1) :
    News g L h (d :: b :: f :: objs) ∧ @LT.lt Nat _ d.1 b.1 ∧ @LT.lt Nat _ f.1 d.1 := ⟨fun q hq => N q (by
  simp only [List.mem_cons] at hq ⊢
  rcases hq with h | h | h | h
  · exact .inr (.inr (.inr (.inl h)))
  · exact .inr (.inl h)
  · exact .inr (.inr (.inr (.inr (.inr (.inl h)))))
  · exact .inr (.inr (.inr (.inr (.inr (.inr (.inr h))))))), h1, h2⟩
theorem zipEnd_pair {h₀ : Heap} {L bw aw : Addr} {J : (Str → Option Value) → List (Addr × Obj) → Prop} {ad : List Addr} {rest T : List (Addr × Obj)} {wb wa : List Value} {kb ka : Nat} {s₁ : Shared} {Q : Flow → Shared → Prop} {h' : Heap} {tk : Nat} {m' : Str → Option Value} (F : Fr h₀ L h' m') (N : News h₀ L h' ((bw, W.listOf (List.toArray wb) kb) :: (aw, W.listOf (List.toArray wa) ka) :: (rest ++ T)))
    (j : J m' ((bw, W.listOf (List.toArray wb) kb) :: (aw, W.listOf (List.toArray wa) ka) :: rest)) (ha : ad = bw :: aw :: rest.map (·.1)) : ZipEnd h₀ L J ad T s₁ Q .next { s₁ with heap := h', toks := tk } :=
  ZipEnd.intro (nw' := (bw, W.listOf (List.toArray wb) kb) :: (aw, W.listOf (List.toArray wa) ka) :: rest) F N ha.symm j
theorem lines_F18_2 : True := by
  (k_with "mine call ref" => (k_here; refine Halt.out ?_))
  (k_with "mine call type:zip" => (k_here; refine Halt.out ?_))
  (k_with "mine exec For Tuple Call cons nil" => (k_here; refine Halt.out ?_))
  trivial
local macro_rules | `(tactic| k_inst) => `(tactic| exact InstAt.of_news (by k_asm) (List.Mem.tail _ (List.Mem.tail _ (List.Mem.tail _ (by assumption)))) (List.Mem.tail _ (List.Mem.tail _ (List.Mem.tail _ (by assumption)))))
theorem lines_F18_3 : True := by
  (k_with "mine getItem ref int" => (k_here; refine Halt.out ?_))
  (k_with "mine setItem ref int" => (k_here; refine Halt.out ?_))
  trivial
def allOf (ls : List Nat) : List (Nat × Nat) := ls.flatMap fun a => ls.map fun b => (a, b)
/-- what the pairs answer: a tuple of two lists and a number, all made here -/
def PairsOut (ls : List Nat) (h : Heap) (r : Value) (h' : Heap) : Prop := ∃ t d1 d2 w1 w2 k1 k2 u, r = .ref t ∧ h.get? t = none ∧ h.get? d1 = none ∧ h.get? d2 = none ∧ h'.get? t = some (tup [.ref d1, .ref d2, .int (((lowOf (allOf ls)).length : Nat) : Int) u]) ∧
  h'.get? d1 = some (listOf (List.toArray w1) k1) ∧ h'.get? d2 = some (listOf (List.toArray w2) k2) ∧ IntsAre w1 (trim ((rowN 16 (lowOf (allOf ls))).map Nat.cast)) ∧ IntsAre w2 (trim ((rowN 17 (highOf (allOf ls))).map Nat.cast))
theorem pairs_spec (w : World) (l : Addr) (ws : List Value) (ls : List Nat) (e : Nat) (t1 : Tok) : SpecS w 6 200 (.ref 189) [.ref l, .int ((e : Nat) : Int) t1] (fun h => h.IsList l ws.toArray ∧ IntsAre ws (ls.map Nat.cast) ∧ (∀ x ∈ ls, x ≤ 16) ∧ ls.length ≤ 6 ∧ e ≤ 1) (fun h r h' => PairsOut ls h r h') := by
  unfold SpecS
  intro p lz mean mg mb dp un gd cn cs a' ccd cl outer A₀ base h₀ L m s Q E H hdp hu hok hret
  refine hide ?_
  intro GG bk
  obtain ⟨B, F, X, T, hk⟩ := H
  obtain ⟨hL, hws, hls, hlen, he⟩ := hok
  refine bk ?_
  clear bk
  ((refine wpAny_call ?_; k_dflt (refine' enterC (news := []) ?k1 ?k2 ?k3 News.nil ?k5 ?kA ?kF ?kK ?k6 ?k7 ?k8 ?k9 ?kB ?kD ?_ ?c2 ?c3 ?c4; (case kA => exact rfl); (case kF => exact rfl); (case kK => assumption); (case k1 => k_asm); (case k2 => k_asm); (case k3 => k_asm); (case k5 => k_asm); (case k6 => k_is); (case k7 => k_is); (case k8 => ktr_room); (case k9 => exact BindsTo.of_eq rfl); (case kB => exact rfl); (case kD => decide +kernel); (case c2 => exact rfl); (case c3 => exact rfl); (case c4 => exact rfl); k_whole)))
  intro g' L' h' tk' cells' hG _ FG' F' N' Y' B' X' T' _
  replace hG : Up s.heap g' := fun b o e => hG b o e (by simp)
  k_cells Y'
  try simp only [List.cons_append, List.nil_append] at N'
  have gL := hL.at fun o e => hG _ o e
  rename _ = Data.cell (bindC _ _ _ (Str.ofString "bent")) => dA
  have dA : _ = Data.cell (some (.int ((e : Nat) : Int) t1)) := dA
  have hw6 : ws.length ≤ 6 := by rw [hws.length, List.length_map]; exact hlen
  have hsz6 : ws.toArray.size ≤ sizeLine := by rw [List.size_toArray]; exact Nat.le_trans hw6 (by decide)
  have at6 : ∀ (i : Nat) (v : Value), ws.toArray[i]? = some v → ∃ (n : Nat) (t : Tok), ls[i]? = some n ∧ v = .int ((n : Nat) : Int) t ∧ n ≤ 16 := fun i v hv => by
    refine hide ?_
    intro GG bk
    obtain ⟨n, t, hn, rfl⟩ := ints_at hws hv
    refine bk ?_
    clear bk
    rw [List.getElem?_map] at hn
    cases e : ls[i]? with
    | none => rw [e] at hn; cases hn
    | some a => rw [e] at hn; cases hn; exact ⟨a, t, rfl, rfl, hls a (List.mem_of_getElem? e)⟩
  try dsimp only
  try k_fold
  k_steps
  rename Fr g' L' _ _ => F8
  refine Halt.mk (compA F8 (fun _ => true) (Rws w e) (by rfl) (by rfl) (by rfl) (by decide) (by rfl) (by decide) (by rfl) (by rfl) (by rfl) ?_)
  k_steps
  refine Halt.mk ?_
  rename Fr g' L' _ _ => F8
  rename News g' L' _ _ => N8
  refine iterListA rfl F8 N8 (gL.at fun o e => F8.keep _ o e) hsz6 ⟨?_, ?_⟩ ?_
  · intros; exact wpAny_tests_nil ⟨rfl, _, _, rfl, fun b o e => e⟩
  · intro C oC i v h tk m₃ E' hP hp hN hx9 F9 N9 ne9 up9
    refine hide ?_
    intro GG bk
    obtain ⟨n, t9, _, rfl, hn⟩ := at6 i v hP
    refine bk ?_
    clear bk
    try dsimp only
    try k_fold
    k_steps
    refine Halt.mk ?_
    k_dflt (refine' useS (ws_spec w _ _) B' F9 X' N9 T' rfl ?kd ?ku ⟨?pa, ?pb⟩ ?_)
    (case kd => ktr_room); (case ku => ktr_units)
    (case pa =>
      rw [Array.all_eq_true]
      intro i hi
      refine decide_eq_true (pair_ascii e n _ ?_)
      rw [← pair_cps]
      simp)
    (case pb =>
      have h1 : ∀ x : Str, x.cps.toList = pairText e n → x.cps.size = (pairText e n).length := fun x hx => by rw [← hx]; simp
      rw [h1 _ (pair_cps e n)]
      unfold pairText
      simp only [List.length_append, List.length_replicate, List.length_cons, List.length_nil]
      omega)
    intro r1 h1 tk1 F1 N1 up1 out1
    refine hide ?_
    intro GG bk
    obtain ⟨o, rfl, dx, nm, ct, cv, xx, tx, q1, q2, q3, q4, q5, u1, u2, u3, f1, f2, f3, f4, g1, g2, g3, g4, gI⟩ := out1
    refine bk ?_
    clear bk
    rw [pair_cps, run_pair] at g2 g3 gI
    refine ⟨⟨_, _, rfl, up1⟩, [(o, _), (dx, _), (nm, _), (ct, _)], ⟨n, t9, o, rfl, rfl, dx, nm, ct, cv, xx, tx, q1, q2, q3, q4, q5, u1, u2, u3, .head _, .tail _ (.head _), .tail _ (.tail _ (.head _)), .tail _ (.tail _ (.tail _ (.head _))), gI⟩, ?_⟩
    intro q hq
    simp only [List.mem_cons, List.not_mem_nil, or_false] at hq
    rcases hq with rfl | rfl | rfl | rfl
    · exact ⟨g1, f1, not_false⟩
    · exact ⟨g2, f2, not_false⟩
    · exact ⟨g3, f3, not_false⟩
    · exact ⟨g4, f4, not_false⟩
  · intro D h9 tk9 k9 ys F9 N9 ne9 up9 fr9 hF9
    rw [List.filter_eq_self.mpr (fun _ _ => rfl)] at hF9
    refine hide ?_
    intro GG bk
    obtain ⟨objs, os, hys, hobj, hlead⟩ := leads_of hws hF9
    refine bk ?_
    clear bk
    have hyv : ys = (os.map Value.ref).toArray := by rw [← Array.toArray_toList (xs := ys), hys]
    subst hyv
    have N9' := joinL F8 (fun q hq => ⟨(hobj q hq).1, (hobj q hq).2.1⟩) N9
    have offD : ∀ q ∈ objs, q.1 ≠ D := fun q hq => (hobj q hq).2.2
    have N9 : News g' L' _ ((D, listOf (os.map Value.ref).toArray k9) :: (L' + 1, _) :: objs) := fun q hq => N9' q (by
      simp only [List.mem_append, List.mem_cons, List.not_mem_nil, or_false] at hq ⊢
      rcases hq with hq | hq | hq
      · exact .inr (.inl hq)
      · exact .inr (.inr hq)
      · exact .inl hq)
    clear N9' hF9 hobj up9 fr9 hys ne9
    try dsimp only
    try k_fold
    k_steps
    rename Fr g' L' _ _ => F8
    rename News g' L' _ _ => N8
    rename _ ∧ _ ∧ _ ∧ AllLt _ objs => lb
    rename _ ∧ _ ∧ _ ∧ _ ∧ _ ∧ AllLt _ objs => la
    refine hide ?_
    intro GG bk
    obtain ⟨N7, hba, hDb⟩ := pickL N8 (by dsimp only; omega) (by dsimp only; omega)
    refine bk ?_
    clear bk
    dsimp only at hba hDb
    have gD := (N7 (D, _) (.tail _ (.tail _ (.head _)))).1
    refine Halt.mk (For_pair3 g' rfl (by rfl) (by rfl) (by rfl) ?_ (by intro _; rfl))
    k_steps
    rename Fr g' L' _ _ => F8
    rename News g' L' _ _ => N8
    rename IntsAre (List.replicate (Int.toNat 16) _).flatten _ => ib
    rename IntsAre (List.replicate (Int.toNat 17) _).flatten _ => ia
    have ib : IntsAre _ ((rowN 16 (lowOf [])).map Nat.cast) := ib
    have ia : IntsAre _ ((rowN 17 (highOf [])).map Nat.cast) := ia
    have hlL : ∀ b o, (b, o) ∈ _ → b ≠ l := fun b o hm e => by
      refine hide ?_
      intro GG bk
      obtain ⟨ol, hol, _⟩ := gL
      refine bk ?_
      clear bk
      have := (N8 (b, o) hm).2.2
      rw [e, hol] at this; cases this
    have hHl := gL.at fun o e => F8.keep _ o e
    have hmin : List.take (min (os.map Value.ref).toArray.size ws.toArray.size) ls = ls := by
      refine List.take_of_length_le ?_
      have z1 := hlead.length
      have z2 := hws.length
      rw [List.length_map] at z2
      simp only [List.size_toArray, List.length_map]
      omega
    refine Halt.mk (forZip rfl (listOf_is gD) hHl F8 N8 (JpF prOut _ _ _ _ (fun i => (ls.take i).flatMap fun a => ls.map fun b => (a, b))) (Jp.zero (by simp) rfl ib ia) ?_ ?_)
    · intro i v0 v1 m₁ nw₁ h tk T hv0 hv1 HH10 hmap hT F9 N9
      refine hide ?_
      intro GG bk
      obtain ⟨tp, wb, wa, kb, ka, e1, hr, rfl, hIb, hIa⟩ := HH10
      refine bk ?_
      clear bk
      refine hide ?_
      intro GG bk
      obtain ⟨o1, ho1, rfl⟩ := ref_at hv0
      obtain ⟨a1, ta, ha1, rfl, ha16⟩ := at6 i v1 hv1
      refine bk ?_
      clear bk
      have W1 := paired_at hlead ho1 ha1
      simp only [List.cons_append] at N9
      dsimp only at e1 hIb hIa
      have em := prO_ext e1 hr
      rw [em] at F9
      have offTb := offT hT (News.get N8 (.head _)) (neN (by omega)) (hlL _ _ (.head _))
      have offTa := offT hT (News.get N8 (.tail _ (.head _))) (neN (by omega)) (hlL _ _ (.tail _ (.head _)))
      generalize hR0 : List.flatMap (fun a => ls.map fun b => (a, b)) (List.take i ls) = Pq at e1 hIb hIa F9 em
      try dsimp only
      try k_fold
      k_steps
      refine Halt.mk (For_pair3 g' rfl (by rfl) (by rfl) (by rfl) ?_ (by intro _; rfl))
      k_steps
      rename Fr g' L' _ _ => F7
      rename News g' L' _ _ => N7
      have gD7 := (N7 (D, _) (.tail _ (.tail _ (.head _)))).1
      have hHl7 := gL.at fun o e => F7.keep _ o e
      refine Halt.mk (forZip rfl (listOf_is gD7) hHl7 F7 N7 (JpF prIn _ _ _ _ (fun j => Pq ++ (ls.take j).map fun b => (a1, b))) (Jp.start (P := Pq) (by simp) ⟨_, rfl⟩ (fun _ _ => rfl) hIb hIa) ?_ ?_)
      · intro j v0 v1 m₂ nw₂ h2 tk2 T2 hv20 hv21 HH10 hmap2 hT2 F6 N6
        refine hide ?_
        intro GG bk
        obtain ⟨tp2, wb2, wa2, kb2, ka2, e2, hr2, rfl, hIb2, hIa2⟩ := HH10
        refine bk ?_
        clear bk
        refine hide ?_
        intro GG bk
        obtain ⟨o2, ho2, rfl⟩ := ref_at hv20
        obtain ⟨a2, ta2, ha2, rfl, ha216⟩ := at6 j v1 hv21
        refine bk ?_
        clear bk
        have W2 := paired_at hlead ho2 ha2
        dsimp only at e2 hIb2 hIa2
        have em2 := prM_ext e2 hr2
        rw [em2] at F6
        simp only [List.cons_append, List.append_assoc] at N6
        have offTb2 := offT hT2 (News.get N7 (.head _)) (neN (by omega)) (hlL _ _ (.head _))
        have offTa2 := offT hT2 (News.get N7 (.tail _ (.head _))) (neN (by omega)) (hlL _ _ (.tail _ (.head _)))
        have offAll : OwnOff (objs ++ (T ++ T2)) [_, _] := fun q hq b hb => by
          have hq3 : q ∈ objs ∨ q ∈ T ∨ q ∈ T2 := by simpa using hq
          rcases List.mem_cons.mp hb with rfl | hb
          · rcases hq3 with hq | hq | hq
            · exact Nat.ne_of_lt (allLt_mem lb.2.2.2 q hq)
            · exact offTb q hq
            · exact offTb2 q hq
          · rw [List.mem_singleton.mp hb]
            rcases hq3 with hq | hq | hq
            · exact Nat.ne_of_lt (allLt_mem la.2.2.2.2.2 q hq)
            · exact offTa q hq
            · exact offTa2 q hq
        have W1' := W1.sub (b := objs ++ (T ++ T2)) fun q hq => List.mem_append_left _ hq
        have W2' := W2.sub (b := objs ++ (T ++ T2)) fun q hq => List.mem_append_left _ hq
        generalize hTT : objs ++ (T ++ T2) = TT at N6 offAll W1' W2'
        have W1c := W1'
        have W2c := W2'
        refine hide ?_
        intro GG bk
        obtain ⟨dx1, nm1, ct1, cv1, x1, y1, k11, k12, k13, k14, k15, t11, t12, t13, m11, m12, m13, m14, m15⟩ := W1c
        obtain ⟨dx2, nm2, ct2, cv2, x2, y2, k21, k22, k23, k24, k25, t21, t22, t23, m21, m22, m23, m24, m25⟩ := W2c
        refine bk ?_
        clear bk
        generalize hR1 : Pq ++ List.map (fun b => (a1, b)) (List.take j ls) = P1 at e2 hIb2 hIa2 F6 em2
        try dsimp only
        try k_fold
        k_steps
        rename Fr g' L' _ _ => F5
        rename News g' L' _ _ => N5
        have V1 := W1'.at N5 (fun q hq => .tail _ (.tail _ (.tail _ hq)))
        have V2 := W2'.at N5 (fun q hq => .tail _ (.tail _ (.tail _ hq)))
        have hbl : (bump [] e).length = e + 1 := by rw [bump_length]; simp
        refine Halt.mk ?_
        k_dflt (refine' useS (less_spec w o1 o2 (stP e a1) (stP e a2) (e + 1)) B' F5 X' N5 T' rfl ?kd ?ku ⟨V1, V2, ?pa, ?pb, ?pc, ?pd, rfl, rfl, rfl, rfl, ?pe⟩ ?_)
        (case kd => ktr_room); (case ku => ktr_units)
        (case pa => show (bump [] e).length ≤ 2; omega)
        (case pb => show (bump [] e).length ≤ 2; omega)
        (case pc => show a1 ≤ 100; omega)
        (case pd => show a2 ≤ 100; omega)
        (case pe => omega)
        intro r1 h1 tk1 F1 N1 up1 out1
        replace out1 : r1 = .bool (decide (((a1 : Nat) : Int) < ((a2 : Nat) : Int))) := out1.trans (congrArg Value.bool (decide_eq_decide.mpr (by show a1 < a2 ↔ _; omega)))
        subst out1
        clear V1 V2 F5 N5
        try dsimp only
        try k_fold
        k_steps
        · rename (_ != _) = true => hne
          exfalso
          simp at hne
        rename Fr g' L' _ _ => F5
        rename News g' L' _ _ => N5
        have V1 := W1'.at N5 (fun q hq => .tail _ (.tail _ (.tail _ hq)))
        have V2 := W2'.at N5 (fun q hq => .tail _ (.tail _ (.tail _ hq)))
        refine Halt.mk ?_
        k_dflt (refine' useS (equal_spec w o1 o2 (stP e a1) (stP e a2)) B' F5 X' N5 T' rfl ?kd ?ku ⟨V1, V2, ?pa, rfl⟩ ?_)
        (case kd => ktr_room); (case ku => ktr_units)
        (case pa => show (bump [] e).length ≤ 100; omega)
        intro r1 h1 tk1 F1 N1 up1 out1
        replace out1 : r1 = .bool (decide (((a1 : Nat) : Int) = ((a2 : Nat) : Int))) := out1.trans (congrArg Value.bool (decide_eq_decide.mpr (by show a1 = a2 ↔ _; omega)))
        subst out1
        clear V1 V2 F5 N5
        try dsimp only
        try k_fold
        k_steps
        · rename (_ != (_ == _)) = true => hne
          exfalso
          by_cases hc : ((a1 : Nat) : Int) = ((a2 : Nat) : Int) <;> simp [hc] at hne
        rename Fr g' L' _ _ => F5
        rename News g' L' _ _ => N5
        have V1 := W1'.at N5 (fun q hq => .tail _ (.tail _ (.tail _ hq)))
        refine Halt.mk ?_
        k_dflt (refine' useS (indent_spec w o1 (stP e a1) 8 _) B' F5 X' N5 T' rfl ?kd ?ku ⟨V1, ?pa, ?pb, ?pc, ?pd, ?pe⟩ ?_)
        (case kd => ktr_room); (case ku => ktr_units)
        (case pa => show (bump [] e).length ≤ 100; omega)
        (case pb => show a1 ≤ 1000; omega)
        (case pc => show 1 ≤ 1000; omega)
        (case pd => show (((bump [] e).length : Nat) : Int) ≤ 8; omega)
        (case pe => omega)
        intro r1 h1 tk1 F1 N1 up1 out1
        obtain ⟨u1, rfl⟩ := out1
        rw [show (((stP e a1).b : Nat) : Int) + 8 * (0 + (((stP e a1).nt : Nat) : Int)) = ((a1 : Nat) : Int) + 8 from by show ((a1 : Nat) : Int) + 8 * (0 + ((1 : Nat) : Int)) = _; omega]
        clear V1 F5 N5
        try dsimp only
        try k_fold
        k_steps
        rename Fr g' L' _ _ => F5
        rename News g' L' _ _ => N5
        have V2 := W2'.at N5 (fun q hq => .tail _ (.tail _ (.tail _ hq)))
        refine Halt.mk ?_
        k_dflt (refine' useS (indent_spec w o2 (stP e a2) 8 _) B' F5 X' N5 T' rfl ?kd ?ku ⟨V2, ?pa, ?pb, ?pc, ?pd, ?pe⟩ ?_)
        (case kd => ktr_room); (case ku => ktr_units)
        (case pa => show (bump [] e).length ≤ 100; omega)
        (case pb => show a2 ≤ 1000; omega)
        (case pc => show 1 ≤ 1000; omega)
        (case pd => show (((bump [] e).length : Nat) : Int) ≤ 8; omega)
        (case pe => omega)
        intro r1 h1 tk1 F1 N1 up1 out1
        obtain ⟨u2, rfl⟩ := out1
        rw [show (((stP e a2).b : Nat) : Int) + 8 * (0 + (((stP e a2).nt : Nat) : Int)) = ((a2 : Nat) : Int) + 8 from by show ((a2 : Nat) : Int) + 8 * (0 + ((1 : Nat) : Int)) = _; omega]
        clear V2 F5 N5
        try dsimp only
        try k_fold
        k_steps
        · rename Fr g' L' _ _ => F5
          rename News g' L' _ _ => N5
          rename _ + 8 - (_ + 8) < (0 : Int) => hap
          have hab := ix_lt hap
          refine Halt.mk (ksa_get N5 (.head _) hIb2 (ixl0 ha216) (ixl1 hab _) (ixl2 hab) fun tg => ?_)
          k_steps
          rename Fr g' L' _ _ => F5
          rename News g' L' _ _ => N5
          k_dflt (refine' Halt.mk (ksa_set F5 N5 ?kU hIb2 (ixl0 ha216) (ixl1 hab _) (ixl2 hab) ?_))
          (case kU => k_upd)
          intro h5 F5 N5 hI5 _ _
          rw [rowN_set (ixl3 ha216) (ixl4 hab ha216) (low_snoc hab)] at hI5
          k_steps
          rename Fr g' L' _ _ => F5
          rename News g' L' _ _ => N5
          rw [← hTT, ← List.append_assoc] at N5
          refine zipEnd_pair (rest := (D, _) :: (objs ++ T)) F5 N5 (Jp.start (pairs_turn hR1 ha2) ?_ ?_ hI5 (by rw [high_same hab]; exact hIa2)) rfl
          · rw [low_snoc hab, List.length_append]; exact ⟨_, rfl⟩
          · intro y hy
            simp only [List.mem_cons, List.not_mem_nil, or_false, not_or] at hy
            refine hide ?_
            intro GG bk
            obtain ⟨y1, y2, y3, y4⟩ := hy
            refine bk ?_
            clear bk
            simp only [prM, if_neg y1, if_neg y2, if_neg y3, if_neg y4]
        · rename Fr g' L' _ _ => F5
          rename News g' L' _ _ => N5
          rename ¬ (_ + 8 - (_ + 8) < (0 : Int)) => hap
          have hab := ix_ge hap
          refine Halt.mk (ksa_get N5 (.tail _ (.head _)) hIa2 (ixg0 hab) (ixg1 ha16 _) (ixg2 ha16) fun tg => ?_)
          k_steps
          rename Fr g' L' _ _ => F5
          rename News g' L' _ _ => N5
          k_dflt (refine' Halt.mk (ksa_set F5 N5 ?kU hIa2 (ixg0 hab) (ixg1 ha16 _) (ixg2 ha16) ?_))
          (case kU => k_upd)
          intro h5 F5 N5 hI5 _ _
          rw [rowN_set (ixg3 hab) (ixg4 ha16) (high_snoc hab)] at hI5
          k_steps
          rename Fr g' L' _ _ => F5
          rename News g' L' _ _ => N5
          rw [← hTT, ← List.append_assoc] at N5
          refine zipEnd_pair (rest := (D, _) :: (objs ++ T)) F5 N5 (Jp.start (pairs_turn hR1 ha2) ?_ ?_ (by rw [low_same hab]; exact hIb2) hI5) rfl
          · rw [low_same hab]; exact ⟨_, rfl⟩
          · intro y hy
            simp only [List.mem_cons, List.not_mem_nil, or_false, not_or] at hy
            refine hide ?_
            intro GG bk
            obtain ⟨y1, y2, y3, y4⟩ := hy
            refine bk ?_
            clear bk
            simp only [prM, if_neg y1, if_neg y2, if_neg y3, if_neg y4]
      · intro m₂ nw₂ h2 tk2 HH4 hmap2 F6 N6
        refine hide ?_
        intro GG bk
        obtain ⟨tp2, wb2, wa2, kb2, ka2, e2, hr2, rfl, hIb2, hIa2⟩ := HH4
        refine bk ?_
        clear bk
        dsimp only at e2 hIb2 hIa2
        rw [hmin] at e2 hIb2 hIa2
        try dsimp only
        try k_fold
        k_steps
        rename Fr g' L' _ _ => F5
        rename News g' L' _ _ => N5
        refine zipEnd_pair (rest := (D, _) :: objs) F5 N5 (Jp.start (pairs_row hR0 ha1) ⟨_, e2⟩ ?_ hIb2 hIa2) rfl
        intro y hy
        simp only [List.mem_cons, List.not_mem_nil, or_false, not_or] at hy
        refine hide ?_
        intro GG bk
        obtain ⟨y1, y2, y3, y4, y5, y6⟩ := hy
        refine bk ?_
        clear bk
        rw [hr2 y (by simp [y3, y4, y5, y6])]
        simp only [prO, if_neg y1, if_neg y2, if_neg y3, if_neg y4, if_neg y5, if_neg y6]
    · intro m₁ nw₁ h tk HH4 hmap F9 N9
      refine hide ?_
      intro GG bk
      obtain ⟨tp, wb, wa, kb, ka, e1, hr, rfl, hIb, hIa⟩ := HH4
      refine bk ?_
      clear bk
      dsimp only at e1 hIb hIa
      rw [hmin] at e1 hIb hIa
      have em := prO_ext e1 hr
      rw [em] at F9
      try dsimp only
      try k_fold
      k_steps
      rename Fr g' L' _ _ => F5
      rename News g' L' _ _ => N5
      refine Halt.mk ?_
      k_dflt (refine' useS (trimmed_spec w _ wb ((rowN 16 (lowOf (allOf ls))).map Nat.cast)) B' F5 X' N5 T' rfl ?kd ?ku ⟨?pa, hIb, ?pb⟩ ?_)
      (case kd => ktr_room); (case ku => ktr_units)
      (case pa => exact listOf_is (News.get N5 (.head _)))
      (case pb => rw [rowN_len]; decide)
      intro r1 h1 tk1 F1 N1 up1 out1
      refine hide ?_
      intro GG bk
      obtain ⟨d1, w1, k1, rfl, f1, g1, i1⟩ := out1
      refine bk ?_
      clear bk
      have N2 := join F5 f1 g1 N1
      clear N1 N5 F5
      try dsimp only
      try k_fold
      k_steps
      rename Fr g' L' _ _ => F5
      rename News g' L' _ _ => N5
      refine Halt.mk ?_
      k_dflt (refine' useS (trimmed_spec w _ wa ((rowN 17 (highOf (allOf ls))).map Nat.cast)) B' F5 X' N5 T' rfl ?kd ?ku ⟨?pa, hIa, ?pb⟩ ?_)
      (case kd => ktr_room); (case ku => ktr_units)
      (case pa => exact listOf_is (News.get N5 (.tail _ (.tail _ (.head _)))))
      (case pb => rw [rowN_len]; decide)
      intro r2 h2 tk2 F2 N2 up2 out2
      refine hide ?_
      intro GG bk
      obtain ⟨d2, w2, k2, rfl, f2, g2, i2⟩ := out2
      refine bk ?_
      clear bk
      have N3 := join F5 f2 g2 N2
      clear N2 N5 F5
      try dsimp only
      try k_fold
      k_steps
      rename Fr g' L' _ _ => F5
      rename News g' L' _ _ => N5
      have n0 := N5 _ (.head _)
      have n1 := N5 _ (.tail _ (.head _))
      have n2 := N5 _ (.tail _ (.tail _ (.head _)))
      exact hret _ _ _ (fun b o e => F5.keep b o (hG b o e)) ⟨_, d1, d2, w1, w2, k1, k2, _, rfl, fresh_up hG n0.2.2, fresh_up hG n2.2.2, fresh_up hG n1.2.2, n0.1, n2.1, n1.1, i1, i2⟩
end
end
section
open PySem PySem.W PyProof.Rows PySem.Spec PySem.Calls
section
theorem lines_F19a_1 : True := by
  (k_with "mine subscriptTail Name Constant ref int" => (k_here; (with_reducible show wpAny _ _ (subscriptTail _ _ (Value.ref _) (Value.int _ _)) _ _ _); (with_unfolding_all refine' item_base ?k1_h ?k2_h ?k3_h ?k4_h ?k5_h ?_ ?k6_h; (case k1_h => k_asm); (case k2_h => assumption); (case k3_h => decide); (case k4_h => decide); (case k5_h => first | exact at3_0 | exact at3_1 | exact at3_2); (case k6_h => with_unfolding_all rfl); k_whole)))
  (k_with "mine call builtin:min" => (k_here; (with_reducible show wpAny _ _ (call (Value.builtin _) [Value.ref _]) _ _ _); k_dflt (refine' minLK ?k1_h ?k2_h ?k3_h ?k4_h ?_; (case k1_h => k_asm); (case k2_h => k_asm); (case k3_h => exact rfl); (case k4_h => assumption); k_whole); intro y_q h_q tk_q F_q N_q; (try dsimp only); (try k_sweep)))
  (k_with "mine call builtin:max" => (k_here; (with_reducible show wpAny _ _ (call (Value.builtin _) [Value.ref _]) _ _ _); k_dflt (refine' maxLK ?k1_h ?k2_h ?k3_h ?k4_h ?_; (case k1_h => k_asm); (case k2_h => k_asm); (case k3_h => exact rfl); (case k4_h => assumption); k_whole); intro y_q h_q tk_q F_q N_q; (try dsimp only); (try k_sweep)))
  (k_with "mine eval ListComp" => (k_here; refine Halt.out ?_))
  (k_with "mine exec Assign cons ListComp" => (k_here; refine Halt.out ?_))
  (k_with "mine pyIter ref" => (k_here; refine Halt.out ?_))
  (k_with "mine compareOp NotEq ref ref" => (k_here; k_dflt (refine' ke_ne_ints ?k1_h ?k2_h ?k3_h ?k4_h ?k5_h ?_; (case k1_h => (first | exact Heap.IsList.at (by assumption) (fun o e => Fr.keep (by assumption) _ o e) | exact listOf_is (News.get (by assumption) (by k_mem)))); (case k2_h => (first | exact Heap.IsList.at (by assumption) (fun o e => Fr.keep (by assumption) _ o e) | exact listOf_is (News.get (by assumption) (by k_mem)))); (case k3_h => (first | exact ints3 | exact IntsAre.nil | assumption)); (case k4_h => (first | exact ints3 | exact IntsAre.nil | assumption)); (case k5_h => ktr_units); k_whole)))
  (k_with "mine compareOp Eq ref ref" => (k_here; k_dflt (refine' ke_eq_ints ?k1_h ?k2_h ?k3_h ?k4_h ?k5_h ?_; (case k1_h => (first | exact Heap.IsList.at (by assumption) (fun o e => Fr.keep (by assumption) _ o e) | exact listOf_is (News.get (by assumption) (by k_mem)))); (case k2_h => (first | exact Heap.IsList.at (by assumption) (fun o e => Fr.keep (by assumption) _ o e) | exact listOf_is (News.get (by assumption) (by k_mem)))); (case k3_h => (first | exact ints3 | exact IntsAre.nil | assumption)); (case k4_h => (first | exact ints3 | exact IntsAre.nil | assumption)); (case k5_h => ktr_units); k_whole)))
  trivial
def Rmod (v y : Value) (objs : List (Addr × Obj)) : Prop := ∃ (n : Int) (t u : Tok), v = .int n t ∧ y = .int (n.fmod 1000000) u ∧ objs = []
theorem mods_of {H h' : Heap} {no : Addr → Prop} : ∀ {ws ys : List Value} {ns : List Int}, IntsAre ws ns → Paired (Brought H h' no Rmod) ws ys → IntsAre ys (ns.map fun n => n.fmod 1000000)
  | _, _, [], hi, h => by cases hi; cases h; exact .nil
  | _, _, n :: r, hi, h => by
    cases hi with
    | cons _ t hi =>
      cases h with
      | cons a b =>
        obtain ⟨_, ⟨n', t', u', e1, rfl, _⟩, _⟩ := a
        injection e1 with e1 _
        subst e1
        exact .cons _ _ (mods_of hi b)
theorem cols_of {H h' : Heap} : ∀ {ds : List Addr} {cs : List Col}, Paired (fun (d : Addr) (c : Col) => H.get? d = none ∧ ∃ t1 t2 t3 k, h'.get? d = some (col3 c t1 t2 t3 k)) ds cs →
    ∃ objs, (∀ q ∈ objs, h'.get? q.1 = some q.2 ∧ H.get? q.1 = none) ∧ (∀ q ∈ objs, ∃ c t1 t2 t3 k, q.2 = col3 c t1 t2 t3 k) ∧ Paired (ColIn objs) ds cs
  | _, _, .nil => ⟨[], by simp, by simp, .nil⟩
  | _, _, .cons a b => by
    obtain ⟨f, t1, t2, t3, k, g⟩ := a
    obtain ⟨objs, h1, h2, h3⟩ := cols_of b
    refine ⟨_ :: objs, fun q hq => ?_, fun q hq => ?_, .cons ⟨t1, t2, t3, k, .head _⟩ (Paired.imp (fun _ _ x => ?_) h3)⟩
    · rcases List.mem_cons.mp hq with rfl | hq
      · exact ⟨g, f⟩
      · exact h1 q hq
    · rcases List.mem_cons.mp hq with rfl | hq
      · exact ⟨_, _, _, _, _, rfl⟩
      · exact h2 q hq
    · obtain ⟨a, b, c, d, e⟩ := x
      exact ⟨a, b, c, d, .tail _ e⟩
theorem ColIn.get {g h : Heap} {L : Addr} {objs news : List (Addr × Obj)} (N : News g L h news) (hs : ∀ q ∈ objs, q ∈ news) {ds : List Addr} {cs : List Col} (P : Paired (ColIn objs) ds cs) : Paired (fun (d : Addr) (c : Col) => (∃ t1 t2 t3 k, h.get? d = some (col3 c t1 t2 t3 k))) ds cs :=
  Paired.imp (fun _ _ x => by
    obtain ⟨a, b, c, d, e⟩ := x
    exact ⟨a, b, c, d, (N _ (hs _ e)).1⟩) P
theorem with_ok {R : Addr → Col → Prop} {OK : Col → Prop} : ∀ {ds : List Addr} {cs : List Col}, Paired R ds cs → (∀ c ∈ cs, OK c) → Paired (fun d c => R d c ∧ OK c) ds cs
  | _, _, .nil, _ => .nil
  | _, _, .cons a b, h => .cons ⟨a, h _ (.head _)⟩ (with_ok b fun c hc => h c (.tail _ hc))
theorem tab0 : TabLeds [(37, tabObj #[]), (44, tabObj #[])] := ⟨[(37, tabObj #[])], [(44, tabObj #[])], rfl, .none, .none⟩
theorem pickP {g h : Heap} {L : Addr} {a b c d e : Addr × Obj} {objs : List (Addr × Obj)} (N : News g L h (objs ++ (a :: b :: c :: d :: [e]))) : News g L h (a :: b :: (objs ++ [e, d])) := fun q hq => N q (by
  simp only [List.mem_cons, List.mem_append, List.not_mem_nil, or_false] at hq ⊢
  rcases hq with h | h | h | h | h <;> simp [h])
def lightI (c : Col) : Int := min (min c.1 c.2.1) c.2.2 + max (max c.1 c.2.1) c.2.2
def lightN (c : Col) : Nat := (lightI c).toNat
theorem fmod9 (x : Int) : 0 ≤ Int.fmod x 9 ∧ Int.fmod x 9 ≤ 8 := by
  rw [Int.fmod_eq_emod_of_nonneg _ (by decide)]; omega
theorem pal_in {ns : List Int} : ∀ c ∈ pal ns, (0 ≤ c.1 ∧ c.1 ≤ 8) ∧ (0 ≤ c.2.1 ∧ c.2.1 ≤ 8) ∧ (0 ≤ c.2.2 ∧ c.2.2 ≤ 8) := by
  intro c hc
  rcases List.mem_append.mp hc with hc | hc
  · simp only [List.mem_cons, List.not_mem_nil, or_false] at hc
    rcases hc with rfl | rfl | rfl <;> decide
  · obtain ⟨x, _, rfl⟩ := List.mem_map.mp hc
    exact ⟨fmod9 _, fmod9 _, fmod9 _⟩
theorem light_le {ns : List Int} : ∀ c ∈ pal ns, 0 ≤ lightI c ∧ lightI c ≤ 16 := by
  intro c hc
  obtain ⟨h1, h2, h3⟩ := pal_in c hc
  unfold lightI
  omega
theorem lights_le (ns : List Int) : ∀ x ∈ (pal ns).map lightN, x ≤ 16 := by
  intro x hx
  obtain ⟨c, hc, rfl⟩ := List.mem_map.mp hx
  have := light_le c hc
  unfold lightN
  omega
theorem lights_len {ns : List Int} (h : ns.length ≤ 3) : ((pal ns).map lightN).length ≤ 6 := by
  simp [pal]; omega
theorem lights_len3 (ns : List Int) : 3 ≤ ((pal ns).map lightN).length := by
  simp [pal]
section
variable {prog : Program} {w : World} {A : Around} {E : Value → Shared → Prop} {s : Shared} {h₀ : Heap} {L : Addr} {m : Str → Option Value} {news objs : List (Addr × Obj)}
theorem ColIn.list {d : Addr} {c : Col} {h : Heap} (N : News h₀ L h news) (hs : ∀ q ∈ objs, q ∈ news) (hm : ColIn objs d c) : ∃ t1 t2 t3, h.IsList d #[.int c.1 t1, .int c.2.1 t2, .int c.2.2 t3] := by
  obtain ⟨t1, t2, t3, k, e⟩ := hm
  exact ⟨t1, t2, t3, listOf_is (N _ (hs _ e)).1⟩
theorem minLN {d : Addr} {c : Col} {Q : Value → Shared → Prop} (F : Fr h₀ L s.heap m) (N : News h₀ L s.heap news) (hh : A.handled = none) (hm : ColIn objs d c) (hs : ∀ q ∈ objs, q ∈ news)
    (h : ∀ y h' tk, Fr h₀ L h' m → News h₀ L h' news → Up s.heap h' → Q (.int (min (min c.1 c.2.1) c.2.2) y) { s with heap := h', toks := tk }) :
    wpAny (model prog w) A (call (.builtin "min") [.ref d]) Q E s := by
  obtain ⟨t1, t2, t3, hl⟩ := hm.list N hs
  exact minL hh hl fun y h' tk up => h y h' tk (F.keeps up) (N.grown up) up
theorem maxLN {d : Addr} {c : Col} {Q : Value → Shared → Prop} (F : Fr h₀ L s.heap m) (N : News h₀ L s.heap news) (hh : A.handled = none) (hm : ColIn objs d c) (hs : ∀ q ∈ objs, q ∈ news)
    (h : ∀ y h' tk, Fr h₀ L h' m → News h₀ L h' news → Up s.heap h' → Q (.int (max (max c.1 c.2.1) c.2.2) y) { s with heap := h', toks := tk }) :
    wpAny (model prog w) A (call (.builtin "max") [.ref d]) Q E s := by
  obtain ⟨t1, t2, t3, hl⟩ := hm.list N hs
  exact maxL hh hl fun y h' tk up => h y h' tk (F.keeps up) (N.grown up) up
end
def Rlt (objs : List (Addr × Obj)) (v y : Value) (o : List (Addr × Obj)) : Prop := ∃ d c u, v = .ref d ∧ ColIn objs d c ∧ y = .int (min (min c.1 c.2.1) c.2.2 + max (max c.1 c.2.1) c.2.2) u ∧ o = []
theorem ColIn.uniq {g h : Heap} {L : Addr} {objs news : List (Addr × Obj)} (N : News g L h news) (hs : ∀ q ∈ objs, q ∈ news) {d : Addr} {c c' : Col} (h1 : ColIn objs d c) (h2 : ColIn objs d c') : c = c' := by
  obtain ⟨t1, t2, t3, k, e⟩ := h1
  obtain ⟨t1', t2', t3', k', e'⟩ := h2
  have := Option.some.inj ((N _ (hs _ e)).1.symm.trans (N _ (hs _ e')).1)
  obtain ⟨a, b, d⟩ := c
  obtain ⟨a', b', d'⟩ := c'
  have h5 := congrArg Obj.data this
  simp [col3, listOf] at h5
  simp [h5]
theorem lights_of {H h' : Heap} {no : Addr → Prop} {objs : List (Addr × Obj)} (uq : ∀ d c c', ColIn objs d c → ColIn objs d c' → c = c') : ∀ {ds : List Addr} {ys : List Value} {cs : List Col}, (∀ c ∈ cs, 0 ≤ lightI c) → Paired (ColIn objs) ds cs → Paired (Brought H h' no (Rlt objs)) (ds.map Value.ref) ys → IntsAre ys ((cs.map lightN).map Nat.cast)
  | _, _, _, _, .nil, .nil => .nil
  | _, _, _, h0, .cons a r, .cons b p => by
    obtain ⟨_, ⟨d, c', u, e, h1, rfl, _⟩, _⟩ := b
    cases e
    have e := uq _ _ _ h1 a
    subst e
    have h2 : ((lightN c' : Nat) : Int) = lightI c' := Int.toNat_of_nonneg (h0 _ (.head _))
    rw [List.map_cons, List.map_cons, h2]
    exact .cons _ _ (lights_of uq (fun c hc => h0 c (.tail _ hc)) r p)
def Rsub (v y : Value) (o : List (Addr × Obj)) : Prop := ∃ (n : Int) (t u : Tok), v = .int n t ∧ y = .int (16 - n) u ∧ o = []
theorem subs_of {H h' : Heap} {no : Addr → Prop} : ∀ {ws ys : List Value} {ls : List Nat}, (∀ x ∈ ls, x ≤ 16) → IntsAre ws (ls.map Nat.cast) → Paired (Brought H h' no Rsub) ws ys → IntsAre ys ((ls.map fun n => 16 - n).map Nat.cast)
  | _, _, [], _, hi, h => by cases hi; cases h; exact .nil
  | _, _, n :: r, hl, hi, h => by
    cases hi with
    | cons _ t hi =>
      cases h with
      | cons a b =>
        obtain ⟨_, ⟨n', t', u', e1, rfl, _⟩, _⟩ := a
        injection e1 with e1 _
        subst e1
        have h1 : n ≤ 16 := hl n (.head _)
        have h2 : (16 : Int) - ((n : Nat) : Int) = ((16 - n : Nat) : Int) := by omega
        rw [List.map_cons, List.map_cons, h2]
        exact .cons _ _ (subs_of (fun x hx => hl x (.tail _ hx)) hi b)
theorem pickD {g h : Heap} {L : Addr} {a b c : Addr × Obj} {objs TL : List (Addr × Obj)} (N : News g L h (a :: b :: c :: (objs ++ TL))) : News g L h ([a, b, c] ++ TL) := fun q hq => N q (by
  simp only [List.mem_cons, List.mem_append, List.not_mem_nil, or_false] at hq ⊢
  rcases hq with (h | h | h) | h <;> simp [h])
theorem TabLed.head {P : Addr} {line col : Int} {qual : Str} {l : List (Addr × Obj)} (T : TabLed P line col qual l) : ∃ ps, (P, tabObj ps) ∈ l := by
  cases T with
  | none => exact ⟨_, .head _⟩
  | some h1 h2 => exact ⟨_, .head _⟩
theorem grown_all {g h : Heap} {L : Addr} {news TL : List (Addr × Obj)} (hT : TabLeds TL) (N : News g L h news) (hs : ∀ q ∈ TL, q ∈ news) : GrownAll [(48, 44), (41, 37)] h := by
  obtain ⟨l1, l2, rfl, h1, h2⟩ := hT
  obtain ⟨p1, m1⟩ := TabLed.head h1
  obtain ⟨p2, m2⟩ := TabLed.head h2
  exact ⟨GrownAt.of N (hs _ (List.mem_append_right _ m2)), GrownAt.of N (hs _ (List.mem_append_left _ m1)), trivial⟩
theorem row_ne (ls : List Nat) : rowOf ls ≠ [] := fun e => by
  have := congrArg List.length e
  simp [rowOf] at this
theorem row_len (ls : List Nat) : (rowOf ls).length ≤ sizeLine := by
  rw [show (rowOf ls).length = 17 from by simp [rowOf]]; decide
theorem cnt_sub {ls : List Nat} (h : ∀ x ∈ ls, x ≤ 16) {i : Nat} (hi : i ≤ 16) : cntAt (ls.map fun n => 16 - n) i = cntAt ls (16 - i) := by
  unfold cntAt
  congr 1
  induction ls with
  | nil => rfl
  | cons a r ih =>
    have ha := h a (.head _)
    have ih := ih fun x hx => h x (.tail _ hx)
    by_cases e : 16 - a = i
    · have e' : a = 16 - i := by omega
      rw [List.map_cons, List.filter_cons_of_pos (by simpa using e), List.filter_cons_of_pos (by simpa using e'), List.length_cons, List.length_cons, ih]
    · have e' : ¬ a = 16 - i := by omega
      rw [List.map_cons, List.filter_cons_of_neg (by simpa using e), List.filter_cons_of_neg (by simpa using e'), ih]
theorem row_sub {ls : List Nat} (h : ∀ x ∈ ls, x ≤ 16) : rowOf (ls.map fun n => 16 - n) = (rowOf ls).reverse := by
  apply List.ext_getElem
  · simp [rowOf]
  · intro i h1 h2
    have hi : i ≤ 16 := by simp [rowOf] at h1; omega
    rw [List.getElem_reverse]
    simp only [rowOf, List.getElem_map, List.getElem_range, List.length_map, List.length_range]
    rw [cnt_sub h hi]
theorem bent_of (x : Int) : ∃ b : Nat, x.fmod 2 = ((b : Nat) : Int) ∧ b ≤ 1 := by
  refine ⟨(x.fmod 2).toNat, ?_, ?_⟩ <;> rw [Int.fmod_eq_emod_of_nonneg _ (by decide)] <;> omega
theorem pickF {g h : Heap} {L : Addr} {a1 a2 a3 a4 a5 a6 a7 a8 a9 a10 a11 : Addr × Obj} {TL : List (Addr × Obj)} (N : News g L h (a1 :: a2 :: a3 :: a4 :: a5 :: a6 :: a7 :: a8 :: a9 :: a10 :: a11 :: TL)) : News g L h ([a2, a3, a6, a8, a10] ++ TL) := fun q hq => N q (by
  simp only [List.mem_cons, List.mem_append, List.not_mem_nil, or_false] at hq ⊢
  rcases hq with (h | h | h | h | h) | h <;> simp [h])
section
variable {prog : Program} {w : World} {A : Around} {E : Value → Shared → Prop} {s : Shared} {Q : Value → Shared → Prop} {t u : Tok}
theorem n_mulB {a b : Nat} (ha : a < 2 ^ 500) (hb : b < 2 ^ 500) (h : ∀ t' tk, Q (.int ((a * b : Nat) : Int) t') { s with toks := tk }) : wpAny (model prog w) A (binaryOp .Mult (.int ((a : Nat) : Int) t) (.int ((b : Nat) : Int) u)) Q E s := by
  refine mul_int ?_ (IntMulOk.of_le (m := 500) (n := 500) (PySem.intBits_le_iff.mpr (by rw [Int.natAbs_natCast]; exact ha)) (PySem.intBits_le_iff.mpr (by rw [Int.natAbs_natCast]; exact hb)) (by decide))
  rw [← Int.natCast_mul]
  exact h _ _
end
theorem ofD_lt8 : ∀ ds : List Nat, (∀ d ∈ ds, d < 2 ^ 8) → ofD 8 ds < 2 ^ (8 * ds.length)
  | [], _ => by simp [ofD]
  | d :: r, h => by
    have h1 := ofD_lt8 r fun x hx => h x (.tail _ hx)
    have h2 := h d (.head _)
    rw [ofD, List.length_cons, Nat.mul_succ, Nat.pow_add]
    have h3 : 2 ^ 8 * (ofD 8 r + 1) ≤ 2 ^ 8 * 2 ^ (8 * r.length) := Nat.mul_le_mul_left _ h1
    rw [Nat.mul_comm (2 ^ (8 * r.length))]
    omega
theorem row_lt {ls : List Nat} (h : ls.length ≤ 6) : ofD 8 (rowN 17 ls) < 2 ^ 136 := by
  have h1 := ofD_lt8 (rowN 17 ls) (rowN_lt (by omega))
  rwa [show (rowN 17 ls).length = 17 from by simp [rowN]] at h1
theorem lt500 {n : Nat} (h : n < 2 ^ 136) : n < 2 ^ 500 := Nat.lt_trans h (by decide)
theorem p256 : ((256 : Int) ^ Int.toNat 16) = ((256 ^ 16 : Nat) : Int) := (Int.natCast_pow 256 16).symm
theorem bits_b {b m : Nat} (h : 2 ^ m ≤ b) : m < Builtin.Int.intBits ((b : Nat) : Int) := by
  rcases Nat.lt_or_ge m (Builtin.Int.intBits ((b : Nat) : Int)) with h1 | h1
  · exact h1
  · have := PySem.intBits_le_iff.mp h1
    rw [Int.natAbs_natCast] at this
    omega
theorem cntD_small {a N k : Nat} (ha : a < 2 ^ k) (hN : 1 ≤ N) (hk : k ≤ 64 * N) : cntD a N ≤ 64 := by
  have h1 : Builtin.Int.intBits ((a : Nat) : Int) ≤ k := PySem.intBits_le_iff.mpr (by rw [Int.natAbs_natCast]; exact ha)
  unfold cntD
  have h2 : Builtin.Int.intBits ((a : Nat) : Int) + N - 1 < 65 * N := by omega
  have := (Nat.div_lt_iff_lt_mul (by omega : 0 < N)).mpr h2
  omega
theorem lt1000 {n : Nat} (h : n < 2 ^ 272) : n < 2 ^ 1000 := Nat.lt_trans h (by decide)
theorem sum_same (k : Nat) : ∀ ls : List Nat, (ls.map fun _ => k).sum = ls.length * k
  | [] => by simp
  | a :: r => by rw [List.map_cons, List.sum_cons, sum_same k r, List.length_cons, Nat.succ_mul, Nat.add_comm]
theorem all_len (ls : List Nat) : (allOf ls).length = ls.length * ls.length := by
  unfold allOf
  rw [List.length_flatMap]
  simp only [List.length_map]
  exact sum_same _ ls
theorem low_len {ls : List Nat} (h : ls.length ≤ 6) : (lowOf (allOf ls)).length < 256 := by
  unfold lowOf
  rw [List.length_map]
  have h1 := List.length_filter_le (fun p : Nat × Nat => p.1 < p.2) (allOf ls)
  rw [all_len] at h1
  have h2 : ls.length * ls.length ≤ 6 * 6 := Nat.mul_le_mul h h
  omega
theorem high_len {ls : List Nat} (h : ls.length ≤ 6) : (highOf (allOf ls)).length < 256 := by
  unfold highOf
  rw [List.length_map]
  have h1 := List.length_filter_le (fun p : Nat × Nat => ¬ p.1 < p.2) (allOf ls)
  rw [all_len] at h1
  have h2 : ls.length * ls.length ≤ 6 * 6 := Nat.mul_le_mul h h
  omega
theorem low_lt {ls : List Nat} (h : ls.length ≤ 6) : ofD 8 (rowN 16 (lowOf (allOf ls))) < 2 ^ 128 := by
  have h1 := ofD_lt 8 (rowN 16 (lowOf (allOf ls))) (rowN_lt (low_len h))
  rwa [show (rowN 16 (lowOf (allOf ls))).length = 16 from by simp [rowN]] at h1
theorem high_lt {ls : List Nat} (h : ls.length ≤ 6) : ofD 8 (rowN 17 (highOf (allOf ls))) < 2 ^ 136 := by
  have h1 := ofD_lt 8 (rowN 17 (highOf (allOf ls))) (rowN_lt (high_len h))
  rwa [show (rowN 17 (highOf (allOf ls))).length = 17 from by simp [rowN]] at h1
theorem low_digs {ls : List Nat} (h : ls.length ≤ 6) : digsOf (ofD 8 (rowN 16 (lowOf (allOf ls)))) 8 = trim ((rowN 16 (lowOf (allOf ls))).map Nat.cast) := digsOf_ofD (by decide) _ (rowN_lt (low_len h))
theorem high_digs {ls : List Nat} (h : ls.length ≤ 6) : digsOf (ofD 8 (rowN 17 (highOf (allOf ls)))) 8 = trim ((rowN 17 (highOf (allOf ls))).map Nat.cast) := digsOf_ofD (by decide) _ (rowN_lt (high_len h))
end
end
section
open PySem PySem.W PyProof.Rows PySem.Spec PySem.Calls
section
theorem sum_map_mulL (k : Nat) (f : Nat → Nat) : ∀ l : List Nat, (l.map fun b => k * f b).sum = k * (l.map f).sum
  | [] => by simp
  | b :: r => by rw [List.map_cons, List.sum_cons, sum_map_mulL k f r, List.map_cons, List.sum_cons, Nat.mul_add]
/-- the two packed lists, multiplied: the pairs -/
theorem pairs_prod (ms : List Nat) : ∀ ls : List Nat, (∀ b ∈ ms, b ≤ 16) → (ls.map fun x => 2 ^ (8 * x)).sum * (ms.map fun b => 2 ^ (8 * (16 - b))).sum = ((ls.flatMap fun a => ms.map fun b => (a, b)).map fun p => 2 ^ (8 * (16 + p.1 - p.2))).sum
  | [], _ => by simp
  | a :: r, h => by
    rw [List.map_cons, List.sum_cons, Nat.add_mul, pairs_prod ms r h, List.flatMap_cons, List.map_append, List.sum_append]
    congr 1
    rw [← sum_map_mulL, List.map_map]
    congr 1
    apply List.map_congr_left
    intro b hb
    have := h b hb
    show _ = 2 ^ (8 * (16 + a - b))
    rw [← Nat.pow_add]
    congr 1
    omega
theorem pairs_split : ∀ P : List (Nat × Nat), (P.map fun p => 2 ^ (8 * (16 + p.1 - p.2))).sum = ((lowOf P).map fun x => 2 ^ (8 * x)).sum + 256 ^ 16 * ((highOf P).map fun x => 2 ^ (8 * x)).sum
  | [] => by simp [lowOf, highOf]
  | (a, b) :: r => by
    rw [List.map_cons, List.sum_cons, pairs_split r]
    unfold lowOf highOf
    by_cases h : a < b
    · rw [List.filter_cons_of_pos (by simpa using h), List.filter_cons_of_neg (by simpa using h), List.map_cons, List.map_cons, List.sum_cons, Nat.add_assoc]
    · rw [List.filter_cons_of_neg (by simpa using h), List.filter_cons_of_pos (by simpa using h), List.map_cons, List.map_cons, List.sum_cons, Nat.mul_add]
      have e : 2 ^ (8 * (16 + a - b)) = 256 ^ 16 * 2 ^ (8 * (a - b)) := by
        rw [show (256 : Nat) ^ 16 = 2 ^ (8 * 16) from by decide, ← Nat.pow_add]
        congr 1
        omega
      show 2 ^ (8 * (16 + a - b)) + _ = _ + (256 ^ 16 * 2 ^ (8 * (a - b)) + _)
      rw [e]
      omega
theorem all_mem {ls : List Nat} {p : Nat × Nat} (h : p ∈ allOf ls) : p.1 ∈ ls ∧ p.2 ∈ ls := by
  unfold allOf at h
  obtain ⟨a, ha, h⟩ := List.mem_flatMap.mp h
  obtain ⟨b, hb, rfl⟩ := List.mem_map.mp h
  exact ⟨ha, hb⟩
theorem low_mem {ls : List Nat} (h : ∀ x ∈ ls, x ≤ 16) : ∀ x ∈ lowOf (allOf ls), x < 16 := by
  intro x hx
  unfold lowOf at hx
  obtain ⟨p, hp, rfl⟩ := List.mem_map.mp hx
  obtain ⟨hp, hlt⟩ := List.mem_filter.mp hp
  have h1 := h _ (all_mem hp).2
  have hlt : p.1 < p.2 := by simpa using hlt
  omega
theorem high_mem {ls : List Nat} (h : ∀ x ∈ ls, x ≤ 16) : ∀ x ∈ highOf (allOf ls), x < 17 := by
  intro x hx
  unfold highOf at hx
  obtain ⟨p, hp, rfl⟩ := List.mem_map.mp hx
  obtain ⟨hp, hlt⟩ := List.mem_filter.mp hp
  have h1 := h _ (all_mem hp).1
  omega
theorem prod_is {ls : List Nat} (h : ∀ x ∈ ls, x ≤ 16) : ofD 8 (rowN 17 ls) * ofD 8 (rowN 17 (ls.map fun n => 16 - n)) = ofD 8 (rowN 16 (lowOf (allOf ls))) + 256 ^ 16 * ofD 8 (rowN 17 (highOf (allOf ls))) := by
  have hs : ∀ x ∈ ls.map (fun n => 16 - n), x < 17 := fun x hx => by
    obtain ⟨y, _, rfl⟩ := List.mem_map.mp hx
    omega
  rw [ofD_rowN 8 17 ls fun x hx => by have := h x hx; omega, ofD_rowN 8 17 _ hs, ofD_rowN 8 16 _ (low_mem h), ofD_rowN 8 17 _ (high_mem h), List.map_map]
  exact (pairs_prod ls ls h).trans (pairs_split (allOf ls))
theorem low_lt' {ls : List Nat} (h6 : ls.length ≤ 6) : ofD 8 (rowN 16 (lowOf (allOf ls))) < 256 ^ 16 := Nat.lt_of_lt_of_le (low_lt h6) (by decide)
theorem low_is {ls : List Nat} (h : ∀ x ∈ ls, x ≤ 16) (h6 : ls.length ≤ 6) : ofD 8 (rowN 17 ls) * ofD 8 (rowN 17 (ls.map fun n => 16 - n)) % 256 ^ 16 = ofD 8 (rowN 16 (lowOf (allOf ls))) := by
  rw [prod_is h, Nat.add_mul_mod_self_left, Nat.mod_eq_of_lt (low_lt' h6)]
theorem high_is {ls : List Nat} (h : ∀ x ∈ ls, x ≤ 16) (h6 : ls.length ≤ 6) : ofD 8 (rowN 17 ls) * ofD 8 (rowN 17 (ls.map fun n => 16 - n)) / 256 ^ 16 = ofD 8 (rowN 17 (highOf (allOf ls))) := by
  rw [prod_is h, Nat.add_mul_div_left _ _ (by decide), Nat.div_eq_of_lt (low_lt' h6), Nat.zero_add]
theorem pow_rest : ∀ x : Nat, 2 ^ (8 * x) % 255 = 1
  | 0 => rfl
  | x + 1 => by rw [Nat.mul_succ, Nat.pow_add, Nat.mul_mod, pow_rest x]
theorem sum_rest : ∀ L : List Nat, (L.map fun x => 2 ^ (8 * x)).sum % 255 = L.length % 255
  | [] => rfl
  | x :: r => by
    rw [List.map_cons, List.sum_cons, List.length_cons, Nat.add_mod, sum_rest r, pow_rest x]
    omega
theorem low_mod {ls : List Nat} (h : ∀ x ∈ ls, x ≤ 16) (h6 : (lowOf (allOf ls)).length < 255) : ofD 8 (rowN 16 (lowOf (allOf ls))) % 255 = (lowOf (allOf ls)).length := by
  rw [ofD_rowN 8 16 _ (low_mem h), sum_rest, Nat.mod_eq_of_lt h6]
/-- as many pairs one way as the other -/
def prS (f : Nat → Nat → Nat) (l m : List Nat) : Nat := (l.map fun a => (m.map fun b => f a b).sum).sum
theorem prS_nil (f : Nat → Nat → Nat) : ∀ l, prS f l [] = 0
  | [] => rfl
  | a :: r => by
    have := prS_nil f r
    unfold prS at this ⊢
    rw [List.map_cons, List.sum_cons, this]
    rfl
theorem prS_cons (f : Nat → Nat → Nat) (b : Nat) (m : List Nat) : ∀ l, prS f l (b :: m) = (l.map fun a => f a b).sum + prS f l m
  | [] => rfl
  | a :: r => by
    have := prS_cons f b m r
    unfold prS at this ⊢
    rw [List.map_cons, List.sum_cons, this, List.map_cons, List.sum_cons, List.map_cons, List.sum_cons, List.map_cons, List.sum_cons]
    omega
theorem prS_swap (f : Nat → Nat → Nat) : ∀ l m, prS f l m = prS (fun a b => f b a) m l
  | l, [] => prS_nil f l
  | l, b :: m => by
    rw [prS_cons, prS_swap f l m]
    unfold prS
    rw [List.map_cons, List.sum_cons]
theorem prS_add (f g : Nat → Nat → Nat) (m : List Nat) : ∀ l, prS (fun a b => f a b + g a b) l m = prS f l m + prS g l m
  | [] => rfl
  | a :: r => by
    have h1 := prS_add f g m r
    have h2 : (m.map fun b => f a b + g a b).sum = (m.map fun b => f a b).sum + (m.map fun b => g a b).sum := by
      clear h1
      induction m with
      | nil => rfl
      | cons b m ih => simp only [List.map_cons, List.sum_cons, ih]; omega
    unfold prS at h1 ⊢
    rw [List.map_cons, List.sum_cons, h1, h2, List.map_cons, List.sum_cons, List.map_cons, List.sum_cons]
    omega
theorem sum_ones : ∀ m : List Nat, (m.map fun _ => 1).sum = m.length
  | [] => rfl
  | _ :: m => by rw [List.map_cons, List.sum_cons, sum_ones m, List.length_cons]; omega
theorem prS_one (m : List Nat) : ∀ l, prS (fun _ _ => 1) l m = l.length * m.length
  | [] => by simp [prS]
  | a :: r => by
    have h1 := prS_one m r
    unfold prS at h1 ⊢
    rw [List.map_cons, List.sum_cons, h1, sum_ones, List.length_cons, Nat.succ_mul]; omega
theorem count_row (q : Nat → Nat → Bool) (a : Nat) : ∀ m : List Nat, ((m.map fun b => (a, b)).filter fun p => q p.1 p.2).length = (m.map fun b => if q a b then 1 else 0).sum
  | [] => rfl
  | b :: m => by
    rw [List.map_cons, List.map_cons, List.sum_cons, List.filter_cons, ← count_row q a m]
    cases e : q a b
    · simp
    · simp; omega
theorem count_all (q : Nat → Nat → Bool) (m : List Nat) : ∀ l : List Nat, ((l.flatMap fun a => m.map fun b => (a, b)).filter fun p => q p.1 p.2).length = prS (fun a b => if q a b then 1 else 0) l m
  | [] => rfl
  | a :: r => by
    have h1 := count_all q m r
    unfold prS at h1 ⊢
    rw [List.flatMap_cons, List.filter_append, List.length_append, h1, count_row, List.map_cons, List.sum_cons]
theorem three_ways (ls : List Nat) : ((highOf (allOf ls)).filter fun x => x = 0).length + 2 * (lowOf (allOf ls)).length = ls.length * ls.length := by
  have e1 : (lowOf (allOf ls)).length = prS (fun a b => if decide (a < b) then 1 else 0) ls ls := by
    unfold lowOf allOf
    rw [List.length_map]
    exact count_all (fun a b => decide (a < b)) ls ls
  have e2 : (lowOf (allOf ls)).length = prS (fun a b => if decide (b < a) then 1 else 0) ls ls := e1.trans (prS_swap _ _ _)
  have e3 : ((highOf (allOf ls)).filter fun x => x = 0).length = prS (fun a b => if decide (a = b) then 1 else 0) ls ls := by
    refine Eq.trans ?_ (count_all (fun a b => decide (a = b)) ls ls)
    unfold highOf allOf
    rw [List.filter_map, List.length_map, List.filter_filter]
    congr 1
    apply List.filter_congr
    intro p _
    rw [Bool.eq_iff_iff]
    simp only [Function.comp, Bool.and_eq_true, decide_eq_true_eq]
    omega
  have e4 : 2 * (lowOf (allOf ls)).length = prS (fun a b => if decide (a < b) then 1 else 0) ls ls + prS (fun a b => if decide (b < a) then 1 else 0) ls ls := by
    rw [Nat.two_mul, ← e2, ← e1]
  rw [e3, e4, ← prS_add, ← prS_add, ← prS_one]
  unfold prS
  congr 1
  apply List.map_congr_left
  intro a _
  congr 1
  apply List.map_congr_left
  intro b _
  rcases Nat.lt_trichotomy a b with h | h | h
  · simp [h, Nat.lt_asymm h, Nat.ne_of_lt h]
  · subst h; simp
  · simp [h, Nat.lt_asymm h, Nat.ne_of_gt h]
/-- an item of a list that is trimmed -/
theorem trim_head (a : Int) (r : List Int) (h : a ≠ 0) : ∃ r', trim (a :: r) = a :: r' := by
  unfold trim
  rw [List.reverse_cons, List.dropWhile_append]
  by_cases e : (r.reverse.dropWhile (· == 0)).isEmpty = true
  · rw [if_pos e]
    refine ⟨[], ?_⟩
    simp [h]
  · rw [if_neg e, List.reverse_append]
    exact ⟨_, rfl⟩
theorem row_first (m : Nat) (L : List Nat) : ∃ r, (rowN (m + 1) L).map (Nat.cast : Nat → Int) = (((L.filter fun x => x = 0).length : Nat) : Int) :: r := by
  unfold rowN
  rw [List.range_succ_eq_map]
  exact ⟨_, rfl⟩
theorem same_some {ls : List Nat} (h : 1 ≤ ls.length) : 1 ≤ ((highOf (allOf ls)).filter fun x => x = 0).length := by
  obtain ⟨a, r, rfl⟩ : ∃ a r, ls = a :: r := by
    cases ls with
    | nil => simp at h
    | cons a r => exact ⟨a, r, rfl⟩
  refine List.length_pos_of_mem (a := 0) (List.mem_filter.mpr ⟨?_, by simp⟩)
  unfold highOf
  refine List.mem_map.mpr ⟨(a, a), List.mem_filter.mpr ⟨?_, by simp⟩, by simp⟩
  unfold allOf
  exact List.mem_flatMap.mpr ⟨a, .head _, List.mem_map.mpr ⟨a, .head _, rfl⟩⟩
theorem high_head {ls : List Nat} (h : 1 ≤ ls.length) : ∃ r, trim ((rowN 17 (highOf (allOf ls))).map Nat.cast) = ((((highOf (allOf ls)).filter fun x => x = 0).length : Nat) : Int) :: r := by
  obtain ⟨r, e⟩ := row_first 16 (highOf (allOf ls))
  rw [e]
  exact trim_head _ _ (by have := same_some h; omega)
end
end
section
open PySem PySem.W PyProof.Rows PySem.Spec PySem.Calls
section
/-- a float is reckoned before it is handed on -/
def fz (x : UInt64) (f : UInt64 → Bool) : Bool := Nat.rec (motive := fun _ => Bool) (f (UInt64.ofNat 0)) (fun k _ => f (UInt64.ofNat (k + 1))) x.toNat
theorem fz_eq (x : UInt64) (f : UInt64 → Bool) : fz x f = f x := by
  have h : ∀ n, Nat.rec (motive := fun _ => Bool) (f (UInt64.ofNat 0)) (fun k _ => f (UInt64.ofNat (k + 1))) n = f (UInt64.ofNat n) := fun n => by cases n <;> rfl
  unfold fz
  rw [h, UInt64.ofNat_toNat]
def vZ (m1 m2 hue : UInt64) (k : UInt64 → Bool) : Bool :=
  fz (Float64.divmod hue 4607182418800017408).2 fun t =>
    if (Float64.cmp t 4595172819793696085 == some Ordering.lt) = true then fz (Float64.sub m2 m1) fun d => fz (Float64.mul d t) fun d => fz (Float64.mul d 4618441417868443648) fun d => fz (Float64.add m1 d) k
    else if (Float64.cmp t 4602678819172646912 == some Ordering.lt) = true then k m2
    else if (Float64.cmp t 4604180019048437077 == some Ordering.lt) = true then fz (Float64.sub m2 m1) fun d => fz (Float64.sub 4604180019048437077 t) fun e => fz (Float64.mul d e) fun d => fz (Float64.mul d 4618441417868443648) fun d => fz (Float64.add m1 d) k
    else k m1
theorem ite_k {p : Prop} [Decidable p] (k : UInt64 → Bool) (a b : UInt64) : (if p then k a else k b) = k (if p then a else b) := by split <;> rfl
theorem vZ_eq (m1 m2 hue : UInt64) (k : UInt64 → Bool) : vZ m1 m2 hue k = k (vF m1 m2 hue) := by
  simp only [vZ, fz_eq, vF, ite_k]
def rgbZ (h l s : UInt64) (k : UInt64 → UInt64 → UInt64 → Bool) : Bool :=
  if (Float64.cmp s 0 == some Ordering.eq) = true then k l l l
  else fz (m2F l s) fun m2 => fz (Float64.mul 4611686018427387904 l) fun q => fz (Float64.sub q m2) fun m1 => fz (Float64.add h 4599676419421066581) fun hp => fz (Float64.sub h 4599676419421066581) fun hm =>
    vZ m1 m2 hp fun a => vZ m1 m2 h fun b => vZ m1 m2 hm fun c => k a b c
theorem rgbZ_eq (h l s : UInt64) (k : UInt64 → UInt64 → UInt64 → Bool) : rgbZ h l s k = k (rgbF h l s).1 (rgbF h l s).2.1 (rgbF h l s).2.2 := by
  unfold rgbZ rgbF m1F
  split <;> simp only [fz_eq, vZ_eq]
def hueZ (r g b x n : UInt64) (k : UInt64 → Bool) : Bool :=
  fz (Float64.sub x n) fun d => fz (Float64.sub x r) fun xr => fz (Float64.sub x g) fun xg => fz (Float64.sub x b) fun xb => fz (Float64.div xr d) fun rc => fz (Float64.div xg d) fun gc => fz (Float64.div xb d) fun bc =>
    fz (if (Float64.cmp r x == some Ordering.eq) = true then Float64.sub bc gc else if (Float64.cmp g x == some Ordering.eq) = true then Float64.sub (Float64.add 4611686018427387904 rc) bc else Float64.sub (Float64.add 4616189618054758400 gc) rc) fun h =>
      fz (Float64.div h 4618441417868443648) fun h => fz (Float64.divmod h 4607182418800017408).2 k
theorem hueZ_eq (r g b x n : UInt64) (k : UInt64 → Bool) : hueZ r g b x n k = k (hueF r g b x n) := by
  simp only [hueZ, fz_eq, hueF]
def satZ (x n l : UInt64) (k : UInt64 → Bool) : Bool :=
  fz (Float64.sub x n) fun d => if (Float64.cmp l 4602678819172646912 == some Ordering.lt || Float64.cmp l 4602678819172646912 == some Ordering.eq) = true then fz (Float64.add x n) fun e => fz (Float64.div d e) k
    else fz (Float64.sub 4611686018427387904 x) fun e => fz (Float64.sub e n) fun e => fz (Float64.div d e) k
theorem satZ_eq (x n : UInt64) (k : UInt64 → Bool) : satZ x n (lightF x n) k = k (satF x n) := by
  simp only [satZ, fz_eq, satF, ite_k]
/-- the parts of a colour, one by one, and what must hold of them -/
def overZ (x y z : Int) (k : UInt64 → UInt64 → UInt64 → UInt64 → Bool) : Bool :=
  fz (eighth x) fun r => fz (eighth y) fun g => fz (eighth z) fun b => fz (maxF r g b) fun M => fz (minF r g b) fun N => fz (lightF M N) fun l => fz (Float64.sub 4607182418800017408 l) fun u =>
    !Float64.isInf r && !Float64.isInf g && !Float64.isInf b &&
    (if (Float64.cmp N M == some Ordering.eq) = true then fz (Float64.mul l (Float64.ofInt 16)) fun l16 => fz (Float64.mul u (Float64.ofInt 8)) fun o => k l16 o o o
     else (!(Float64.isZero (Float64.add M N) || Float64.isZero (Float64.sub M N) || Float64.isZero (Float64.sub (Float64.sub 4611686018427387904 M) N)) &&
       hueZ r g b M N fun h => satZ M N l fun s => rgbZ h u s fun p q t => fz (Float64.mul l (Float64.ofInt 16)) fun l16 => fz (Float64.mul p (Float64.ofInt 8)) fun o1 => fz (Float64.mul q (Float64.ofInt 8)) fun o2 => fz (Float64.mul t (Float64.ofInt 8)) fun o3 => k l16 o1 o2 o3))
def testB (x y z mv lt : Int) (l o1 o2 o3 : UInt64) : Bool :=
  (Float64.cmpInt l lt == some Ordering.eq) && fz (Float64.add o1 4602678819172646912) fun a1 => fz (Float64.add o2 4602678819172646912) fun a2 => fz (Float64.add o3 4602678819172646912) fun a3 =>
    !Float64.isNaN a1 && !Float64.isInf a1 && !Float64.isNaN a2 && !Float64.isInf a2 && !Float64.isNaN a3 && !Float64.isInf a3 &&
    (Flt.toInt Float64.truncOf a1 == x + mv) && (Flt.toInt Float64.truncOf a2 == y + mv) && (Flt.toInt Float64.truncOf a3 == z + mv) &&
    fz (Float64.sub o1 (Float64.ofInt (x + mv))) fun d1 => fz (Float64.sub o2 (Float64.ofInt (y + mv))) fun d2 => fz (Float64.sub o3 (Float64.ofInt (z + mv))) fun d3 =>
    !(Float64.cmp (Float64.abs d1) 4517329193108106637 == some Ordering.gt) && !(Float64.cmp (Float64.abs d2) 4517329193108106637 == some Ordering.gt) && !(Float64.cmp (Float64.abs d3) 4517329193108106637 == some Ordering.gt)
def colZ (x y z : Int) : Bool := overZ x y z (testB x y z (moveI x y z) (min (min x y) z + max (max x y) z))
def sliceZ (x : Nat) (ys : List Nat) : Bool := ys.all fun y => (List.range 9).all fun z => colZ (x : Int) (y : Int) (z : Int)
theorem overZ_ok {x y z : Int} {k : UInt64 → UInt64 → UInt64 → UInt64 → Bool} (h : overZ x y z k = true) : overOk x y z ∧ k (overF x y z).1 (overF x y z).2.1 (overF x y z).2.2.1 (overF x y z).2.2.2 = true := by
  unfold overZ at h
  simp only [fz_eq, hueZ_eq, satZ_eq, rgbZ_eq, Bool.and_eq_true, Bool.not_eq_true'] at h
  obtain ⟨⟨⟨h1, h2⟩, h3⟩, h4⟩ := h
  unfold overOk hlsOk overF hlsF
  by_cases e : (Float64.cmp (minF (eighth x) (eighth y) (eighth z)) (maxF (eighth x) (eighth y) (eighth z)) == some Ordering.eq) = true
  · rw [if_pos e] at h4
    rw [if_pos e]
    have e0 : (Float64.cmp 0 0 == some Ordering.eq) = true := by decide +kernel
    refine ⟨⟨by rw [h1]; exact Bool.false_ne_true, by rw [h2]; exact Bool.false_ne_true, by rw [h3]; exact Bool.false_ne_true, by rw [e]; rfl⟩, ?_⟩
    dsimp only
    unfold rgbF
    rw [if_pos e0]
    exact h4
  · rw [if_neg e] at h4
    rw [if_neg e]
    obtain ⟨h5, h6⟩ := (Bool.and_eq_true _ _).mp h4
    exact ⟨⟨by rw [h1]; exact Bool.false_ne_true, by rw [h2]; exact Bool.false_ne_true, by rw [h3]; exact Bool.false_ne_true, by rw [Bool.or_eq_true]; exact .inr h5⟩, h6⟩
structure TestOk (x y z mv lt : Int) (l o1 o2 o3 : UInt64) : Prop where
  li : (Float64.cmpInt l lt != some Ordering.eq) = false
  r1 : rndOk o1
  r2 : rndOk o2
  r3 : rndOk o3
  e1 : rnd o1 = x + mv
  e2 : rnd o2 = y + mv
  e3 : rnd o3 = z + mv
  n1 : (Float64.cmp (Float64.abs (Float64.sub o1 (Float64.ofInt (x + mv)))) 4517329193108106637 == some Ordering.gt) = false
  n2 : (Float64.cmp (Float64.abs (Float64.sub o2 (Float64.ofInt (y + mv)))) 4517329193108106637 == some Ordering.gt) = false
  n3 : (Float64.cmp (Float64.abs (Float64.sub o3 (Float64.ofInt (z + mv)))) 4517329193108106637 == some Ordering.gt) = false
theorem testB_ok {x y z mv lt : Int} {l o1 o2 o3 : UInt64} (h : testB x y z mv lt l o1 o2 o3 = true) : TestOk x y z mv lt l o1 o2 o3 := by
  unfold testB at h
  simp only [fz_eq, Bool.and_eq_true, Bool.not_eq_true'] at h
  obtain ⟨h0, ⟨⟨⟨⟨⟨⟨⟨⟨h1, h2⟩, h3⟩, h4⟩, h5⟩, h6⟩, h7⟩, h8⟩, h9⟩, ⟨h10, h11⟩, h12⟩ := h
  exact ⟨by rw [bne, h0]; rfl, ⟨h1, h2⟩, ⟨h3, h4⟩, ⟨h5, h6⟩, eq_of_beq h7, eq_of_beq h8, eq_of_beq h9, h10, h11, h12⟩
theorem small_line : 1000 ≤ 2 ^ 1024 - 2 ^ 970 := by decide +kernel
theorem move_shift (x y z k : Int) : moveI (x + k) (y + k) (z + k) = moveI x y z - 2 * k := by
  have h1 : ∀ a b : Int, min (a + k) (b + k) = min a b + k := fun a b => by omega
  have h2 : ∀ a b : Int, max (a + k) (b + k) = max a b + k := fun a b => by omega
  unfold moveI
  rw [h1, h1, h2, h2]
  omega
theorem move_in {x y z w : Int} (hx : 0 ≤ x ∧ x ≤ 8) (hy : 0 ≤ y ∧ y ≤ 8) (hz : 0 ≤ z ∧ z ≤ 8) (h1 : min (min x y) z ≤ w) (h2 : w ≤ max (max x y) z) : 0 ≤ w + moveI x y z ∧ w + moveI x y z ≤ 8 := by
  have h3 : 0 ≤ min (min x y) z := Int.le_min.mpr ⟨Int.le_min.mpr ⟨hx.1, hy.1⟩, hz.1⟩
  have h4 : max (max x y) z ≤ 8 := Int.max_le.mpr ⟨Int.max_le.mpr ⟨hx.2, hy.2⟩, hz.2⟩
  unfold moveI
  generalize min (min x y) z = a at *
  generalize max (max x y) z = b at *
  clear hx hy hz
  omega
theorem bound8 {w : Int} (hw : 0 ≤ w ∧ w ≤ 8) : w.natAbs < 2 ^ 1024 - 2 ^ 970 := Nat.lt_of_lt_of_le (by omega : w.natAbs < 1000) small_line
theorem back3 (x k : Int) : x + k + -k = x := by omega
theorem ColOk.of_tests {x y z : Int} {mv : Int} (ok : overOk x y z) (t1 : TestOk x y z mv (min (min x y) z + max (max x y) z) (overF x y z).1 (overF x y z).2.1 (overF x y z).2.2.1 (overF x y z).2.2.2) (hmv : moveI x y z = mv)
    (hx : 0 ≤ x + mv ∧ x + mv ≤ 8) (hy : 0 ≤ y + mv ∧ y + mv ≤ 8) (hz : 0 ≤ z + mv ∧ z + mv ≤ 8) (ok2 : overOk (x + mv) (y + mv) (z + mv)) {lt : Int}
    (t2 : TestOk (x + mv) (y + mv) (z + mv) (-mv) lt (overF (x + mv) (y + mv) (z + mv)).1 (overF (x + mv) (y + mv) (z + mv)).2.1 (overF (x + mv) (y + mv) (z + mv)).2.2.1 (overF (x + mv) (y + mv) (z + mv)).2.2.2) : ColOk (x, y, z) := by
  have ht : thereC (x, y, z) = (x + mv, y + mv, z + mv) := by
    unfold thereC
    dsimp only
    rw [t1.e1, t1.e2, t1.e3]
  refine ⟨ok, t1.r1, t1.r2, t1.r3, t1.li, ?_, ⟨?_, ?_⟩, ⟨?_, ?_⟩, ⟨?_, ?_⟩, ?_, ?_, ?_, ?_, ?_⟩
  · rw [t1.e1, t1.e2, t1.e3, hmv]
  · rw [t1.e1]; exact bound8 hx
  · rw [t1.e1]; exact t1.n1
  · rw [t1.e2]; exact bound8 hy
  · rw [t1.e2]; exact t1.n2
  · rw [t1.e3]; exact bound8 hz
  · rw [t1.e3]; exact t1.n3
  · rw [ht]; exact ok2
  · rw [ht]; exact t2.r1
  · rw [ht]; exact t2.r2
  · rw [ht]; exact t2.r3
  · rw [ht]
    dsimp only
    rw [t2.e1, t2.e2, t2.e3, back3, back3, back3]
theorem col_ok {c : Col} (hc : (0 ≤ c.1 ∧ c.1 ≤ 8) ∧ (0 ≤ c.2.1 ∧ c.2.1 ≤ 8) ∧ (0 ≤ c.2.2 ∧ c.2.2 ≤ 8)) (hz : ∀ x y z : Int, (0 ≤ x ∧ x ≤ 8) → (0 ≤ y ∧ y ≤ 8) → (0 ≤ z ∧ z ≤ 8) → colZ x y z = true) : ColOk c := by
  obtain ⟨x, y, z⟩ := c
  obtain ⟨hx, hy, hz'⟩ := hc
  have hx2 := move_in hx hy hz' (w := x) (Int.le_trans (Int.min_le_left _ _) (Int.min_le_left _ _)) (Int.le_trans (Int.le_max_left _ _) (Int.le_max_left _ _))
  have hy2 := move_in hx hy hz' (w := y) (Int.le_trans (Int.min_le_left _ _) (Int.min_le_right _ _)) (Int.le_trans (Int.le_max_right _ _) (Int.le_max_left _ _))
  have hz2 := move_in hx hy hz' (w := z) (Int.min_le_right _ _) (Int.le_max_right _ _)
  obtain ⟨ok, h⟩ := overZ_ok (hz x y z hx hy hz')
  obtain ⟨ok2, h2⟩ := overZ_ok (hz _ _ _ hx2 hy2 hz2)
  have t2 := testB_ok h2
  rw [move_shift, show moveI x y z - 2 * moveI x y z = - moveI x y z from by omega] at t2
  exact ColOk.of_tests ok (testB_ok h) rfl hx2 hy2 hz2 ok2 t2
end
end
section
open PySem PySem.W PyProof.Rows PySem.Spec PySem.Calls
section
theorem cubeA : ([0, 1, 2].all fun x => sliceZ x (List.range 9)) = true := by decide +kernel
theorem cubeB : ([3, 4, 5].all fun x => sliceZ x (List.range 9)) = true := by decide +kernel
theorem cubeC : ([6, 7, 8].all fun x => sliceZ x (List.range 9)) = true := by decide +kernel
theorem cube_at : ∀ n : Nat, n < 9 → sliceZ n (List.range 9) = true
  | 0, _ => List.all_eq_true.mp cubeA 0 (by decide)
  | 1, _ => List.all_eq_true.mp cubeA 1 (by decide)
  | 2, _ => List.all_eq_true.mp cubeA 2 (by decide)
  | 3, _ => List.all_eq_true.mp cubeB 3 (by decide)
  | 4, _ => List.all_eq_true.mp cubeB 4 (by decide)
  | 5, _ => List.all_eq_true.mp cubeB 5 (by decide)
  | 6, _ => List.all_eq_true.mp cubeC 6 (by decide)
  | 7, _ => List.all_eq_true.mp cubeC 7 (by decide)
  | 8, _ => List.all_eq_true.mp cubeC 8 (by decide)
  | n + 9, h => absurd h (by omega)
theorem cube_ok (x y z : Int) (hx : 0 ≤ x ∧ x ≤ 8) (hy : 0 ≤ y ∧ y ≤ 8) (hz : 0 ≤ z ∧ z ≤ 8) : colZ x y z = true := by
  have h1 := cube_at x.toNat (by omega)
  unfold sliceZ at h1
  rw [List.all_eq_true] at h1
  have h2 := h1 y.toNat (List.mem_range.mpr (by omega))
  rw [List.all_eq_true] at h2
  have h3 := h2 z.toNat (List.mem_range.mpr (by omega))
  rwa [Int.toNat_of_nonneg hx.1, Int.toNat_of_nonneg hy.1, Int.toNat_of_nonneg hz.1] at h3
end
end
section
open PySem PySem.W PyProof.Rows PySem.Spec PySem.Calls
section
theorem top_off_F19 : True := by
  w_top off
  k_with_none
  trivial
theorem lines_F19_1 : True := by
  (k_with "mine subscriptTail Name Constant ref int" => (k_here; (with_reducible show wpAny _ _ (subscriptTail _ _ (Value.ref _) (Value.int _ _)) _ _ _); (with_unfolding_all refine' item_base ?k1_h ?k2_h ?k3_h ?k4_h ?k5_h ?_ ?k6_h; (case k1_h => k_asm); (case k2_h => assumption); (case k3_h => decide); (case k4_h => decide); (case k5_h => first | exact at3_0 | exact at3_1 | exact at3_2); (case k6_h => with_unfolding_all rfl); k_whole)))
  (k_with "mine call builtin:min" => (k_here; (with_reducible show wpAny _ _ (call (Value.builtin _) [Value.ref _]) _ _ _); k_dflt (refine' minLK ?k1_h ?k2_h ?k3_h ?k4_h ?_; (case k1_h => k_asm); (case k2_h => k_asm); (case k3_h => exact rfl); (case k4_h => assumption); k_whole); intro y_q h_q tk_q F_q N_q; (try dsimp only); (try k_sweep)))
  (k_with "mine call builtin:max" => (k_here; (with_reducible show wpAny _ _ (call (Value.builtin _) [Value.ref _]) _ _ _); k_dflt (refine' maxLK ?k1_h ?k2_h ?k3_h ?k4_h ?_; (case k1_h => k_asm); (case k2_h => k_asm); (case k3_h => exact rfl); (case k4_h => assumption); k_whole); intro y_q h_q tk_q F_q N_q; (try dsimp only); (try k_sweep)))
  (k_with "mine eval ListComp" => (k_here; refine Halt.out ?_))
  (k_with "mine exec Assign cons ListComp" => (k_here; refine Halt.out ?_))
  (k_with "mine pyIter ref" => (k_here; refine Halt.out ?_))
  (k_with "mine compareOp NotEq ref ref" => (k_here; k_dflt (refine' ke_ne_ints ?k1_h ?k2_h ?k3_h ?k4_h ?k5_h ?_; (case k1_h => (first | exact Heap.IsList.at (by assumption) (fun o e => Fr.keep (by assumption) _ o e) | exact listOf_is (News.get (by assumption) (by k_mem)))); (case k2_h => (first | exact Heap.IsList.at (by assumption) (fun o e => Fr.keep (by assumption) _ o e) | exact listOf_is (News.get (by assumption) (by k_mem)))); (case k3_h => (first | exact ints3 | exact IntsAre.nil | assumption)); (case k4_h => (first | exact ints3 | exact IntsAre.nil | assumption)); (case k5_h => ktr_units); k_whole)))
  (k_with "mine compareOp Eq ref ref" => (k_here; k_dflt (refine' ke_eq_ints ?k1_h ?k2_h ?k3_h ?k4_h ?k5_h ?_; (case k1_h => (first | exact Heap.IsList.at (by assumption) (fun o e => Fr.keep (by assumption) _ o e) | exact listOf_is (News.get (by assumption) (by k_mem)))); (case k2_h => (first | exact Heap.IsList.at (by assumption) (fun o e => Fr.keep (by assumption) _ o e) | exact listOf_is (News.get (by assumption) (by k_mem)))); (case k3_h => (first | exact ints3 | exact IntsAre.nil | assumption)); (case k4_h => (first | exact ints3 | exact IntsAre.nil | assumption)); (case k5_h => ktr_units); k_whole)))
  (k_with "mine call ref" => (k_here; refine Halt.out ?_))
  (k_with "mine call builtin:min" => (k_here; (with_reducible show wpAny _ _ (call (Value.builtin _) [Value.ref _]) _ _ _); k_dflt (refine' minLN ?k1_h ?k2_h ?k3_h ?k4_h ?k5_h ?_; (case k1_h => k_asm); (case k2_h => k_asm); (case k3_h => exact rfl); (case k4_h => assumption); (case k5_h => (intro q_q hq_q; simp [hq_q])); k_whole); intro y_q h_q tk_q F_q N_q up_q; (try dsimp only); (try k_sweep)))
  (k_with "mine call builtin:max" => (k_here; (with_reducible show wpAny _ _ (call (Value.builtin _) [Value.ref _]) _ _ _); k_dflt (refine' maxLN ?k1_h ?k2_h ?k3_h ?k4_h ?k5_h ?_; (case k1_h => k_asm); (case k2_h => k_asm); (case k3_h => exact rfl); (case k4_h => assumption); (case k5_h => (intro q_q hq_q; simp [hq_q])); k_whole); intro y_q h_q tk_q F_q N_q up_q; (try dsimp only); (try k_sweep)))
  (k_with "mine GrownAll" => (k_dflt (exact grown_all (by assumption) (by k_asm) (by intro q_q hq_q; simp [hq_q]))))
  (k_with "mine compareOp NotEq ref ref" => (k_here; refine Halt.out ?_))
  (k_with "mine compareOp Eq ref ref" => (k_here; refine Halt.out ?_))
  (k_with "mine subscriptTail Name Slice ref ref" => (k_here; (with_reducible show wpAny _ _ (subscriptTail _ (PySem.Expr.Slice none none (some _) _) (Value.ref _) (Value.ref _)) _ _ _); k_dflt (refine' krv_ints ?F_h ?N_h ?l_h ?k_h ?i_h ?_ ?s_h ?t_h ?z_h; (case F_h => k_asm); (case N_h => k_asm); (case l_h => exact listOf_is (News.get (by k_asm) (by k_mem))); (case k_h => exact IsPart.int _ _); (case i_h => assumption); (case s_h => with_unfolding_all rfl); (case t_h => kmk_pure); (case z_h => exact kmk_sz (by assumption) (row_len _))); intro D_q ws_q h_q F_q N_q l1_q hI_q hC_q; (try k_lt l1_q); (try k_sweep)))
  (k_with "mine subscriptTail Name Constant ref int" => (k_here; refine Halt.out ?_))
  (k_with "mine call builtin:len" => (k_here; refine Halt.out ?_))
  (k_with "mine subscriptTail Call Constant ref int" => (k_here; refine Halt.out ?_))
  trivial
def noFields : Data → Bool
  | .fields _ => false
  | _ => true
theorem apart_fast {g h : Heap} {L : Addr} {news TL : List (Addr × Obj)} (hT : TabLeds TL) (N : News g L h (news ++ TL)) (hq : (news.all fun p => noFields p.2.data) = true) : Apart news TL := apart_by hT N fun p hp vs e => by
  have := List.all_eq_true.mp hq p hp
  rw [e] at this
  cases this
section
variable {prog : Program} {w : World} {A : Around} {E : Value → Shared → Prop} {s : Shared} {Q : Value → Shared → Prop} {t u : Tok}
theorem item_listS {value slice : Expr} {l : Addr} {items : Array Value} {k : Int} {v : Value} (hl : s.heap.IsList l items) (h0 : 0 ≤ k) (hhi : k < 2 ^ 63) (hx : items[k.toNat]? = some v) (h : Q v s)
    (hs : subscripted slice false (.ref l) (.int k u) = operate [.ref l, .int k u] (getItem (.ref l) (.int k u)) := by with_unfolding_all rfl) :
    wpAny (model prog w) A (subscriptTail value slice (.ref l) (.int k u)) Q E s :=
  tail_any hl.typeIs slot_list_getitem.lookup (wpAny_getItem_list hl h0 hhi hx h) hs
theorem n_mul2 {b : Nat} (hb : b < 2 ^ 500) (h : ∀ t' tk, Q (.int (2 * ((b : Nat) : Int)) t') { s with toks := tk }) : wpAny (model prog w) A (binaryOp .Mult (.int 2 t) (.int ((b : Nat) : Int) u)) Q E s := by
  refine mul_int ?_ (IntMulOk.of_le (m := 500) (n := 500) (PySem.intBits_le_iff.mpr (by decide)) (PySem.intBits_le_iff.mpr (by rw [Int.natAbs_natCast]; exact hb)) (by decide))
  exact h _ _
end
theorem pal_ok (ns : List Int) : ∀ c ∈ pal ns, ColOk c := fun c hc => col_ok (pal_in c hc) cube_ok
theorem low_len' {ls : List Nat} (h : ls.length ≤ 6) : (lowOf (allOf ls)).length < 255 := by
  unfold lowOf
  rw [List.length_map]
  have h1 := List.length_filter_le (fun p : Nat × Nat => p.1 < p.2) (allOf ls)
  rw [all_len] at h1
  have h2 : ls.length * ls.length ≤ 6 * 6 := Nat.mul_le_mul h h
  omega
theorem law_row : (PySem.Challenge.rw_pe0260_01).row.Holds := Head0.top (by rfl) (by rfl) (by rfl) (by
  w_strict (
    k_go0
    (all_goals try k_fold)
    rename World => w
    rename IntsAre _ _ => hI
    rename ¬ ((63 : Nat) : Int) < _ => hlen
    rename Below _ _ _ _ => B'
    rename Top topProg _ _ _ _ _ => T'
    rename (hd.heap_1 _).In _ => X'
    k_steps
    rename Fr _ _ _ _ => F8
    refine Halt.mk (compA F8 (fun _ => true) Rmod (by rfl) (by rfl) (by rfl) (by decide) (by rfl) (by decide) (by rfl) (by rfl) (by rfl) ?_)
    k_steps
    rename Fr _ _ _ _ => F8
    rename News _ _ _ _ => N8
    rename IntsAre _ (List.take 3 _) => hI3
    have hT := listOf_is (N8 _ (.head _)).1
    refine Halt.mk (iterListA rfl F8 N8 hT ?_ ⟨?_, ?_⟩ ?_)
    · rw [List.size_toArray, hI3.length, List.length_take]; exact Nat.le_trans (Nat.min_le_left _ _) (by decide)
    · intros; exact wpAny_tests_nil ⟨rfl, _, _, rfl, fun b o e => e⟩
    · intro C oC i v h tk m₃ E' hP hp hN hx9 F9 N9 ne9 up9
      refine hide ?_
      intro GG bk
      obtain ⟨n, t9, hn, rfl⟩ := ints_at hI3 hP
      refine bk ?_
      clear bk
      try dsimp only
      try k_fold
      k_steps
      exact ⟨⟨_, _, rfl, fun b o e => e⟩, [], ⟨n, t9, _, rfl, rfl, rfl⟩, by simp⟩
    · intro D h9 tk9 k9 ys F9 N9 ne9 up9 fr9 hF9
      rw [List.filter_eq_self.mpr (fun _ _ => rfl)] at hF9
      try dsimp only
      try k_fold
      k_steps
      rename Fr _ _ _ _ => F5
      rename News _ _ _ _ => N5
      have hnums := mods_of hI3 hF9
      clear hF9
      obtain ⟨zs, rfl⟩ : ∃ zs, ys = List.toArray zs := ⟨ys.toList, (Array.toArray_toList).symm⟩
      replace hnums : IntsAre zs _ := hnums
      generalize hns : (List.take 3 _).map (fun n : Int => n.fmod 1000000) = nums at hnums
      have hn3 : nums.length ≤ 3 := by rw [← hns, List.length_map, List.length_take]; exact Nat.min_le_left _ _
      have gD := listOf_is (N5 _ (.head _)).1
      refine Halt.mk ?_
      k_dflt (refine' useS (palette_spec w D zs nums) B' F5 X' N5 T' rfl ?kd ?ku ⟨gD, hnums, ?pa⟩ ?_)
      (case kd => ktr_room); (case ku => ktr_units)
      (case pa => omega)
      intro r1 h1 tk1 F1 N1 up1 out1
      refine hide ?_
      intro GG bk
      obtain ⟨dp, ds, kp, rfl, fp, gp, hcol⟩ := out1
      obtain ⟨objs, ho1, ho2, hcols⟩ := cols_of hcol
      refine bk ?_
      clear bk
      have N1 := pickP (joinL F5 ho1 (join F5 fp gp N1))
      clear hcol ho1 fp gp F5 N5
      have hTL := tab0
      generalize hTLe : [(37, tabObj #[]), (44, tabObj #[])] = TL at N1 hTL
      k_steps
      rename Fr _ _ _ _ => F5
      rename News _ _ _ _ => N5
      refine Halt.mk ?_
      k_dflt (refine' useS (right_spec w dp ds (pal nums)) B' F5 X' N5 T' rfl ?kd ?ku ⟨listOf_is (N5 _ (.head _)).1, with_ok (ColIn.get N5 ?ka hcols) (pal_ok nums)⟩ ?_)
      (case kd => ktr_room); (case ku => ktr_units)
      (case ka => exact fun q hq => .tail _ (.tail _ (List.mem_append_left _ hq)))
      intro r1 h1 tk1 F1 N1 up1 out1
      subst out1
      clear F5 N5
      k_steps
      rename Fr _ _ _ _ => F5
      refine Halt.mk (compA F5 (fun _ => true) (Rlt objs) (by rfl) (by rfl) (by rfl) (by decide) (by rfl) (by decide) (by rfl) (by rfl) (by rfl) ?_)
      k_steps
      rename Fr _ _ _ _ => F5
      rename News _ _ _ _ => N5
      refine Halt.mk (iterListA rfl F5 N5 (listOf_is (N5 _ (.head _)).1) ?_ ⟨?_, ?_⟩ ?_)
      · have z1 := hcols.length
        have z2 := lights_len hn3
        rw [List.length_map] at z2
        rw [List.size_toArray, List.length_map, z1]
        exact Nat.le_trans z2 (by decide)
      · intros; exact wpAny_tests_nil ⟨rfl, _, _, rfl, fun b o e => e⟩
      · intro C oC i v h tk m₃ E' hP hp hN hx9 F9 N9 ne9 up9
        refine hide ?_
        intro GG bk
        obtain ⟨d, c, rfl, hcd⟩ := paired_ref hcols hP
        refine bk ?_
        clear bk
        try dsimp only
        try k_fold
        k_steps
        rename Up _ _ => u2
        revert u2
        rename Up _ _ => u1
        intro u2
        exact ⟨⟨_, _, rfl, fun b o e => u2 b o (u1 b o e)⟩, [], ⟨d, c, _, rfl, hcd, rfl, rfl⟩, by simp⟩
      · intro D2 h9 tk9 k9 ys F9 N9 ne9 up9 fr9 hF9
        rw [List.filter_eq_self.mpr (fun _ _ => rfl)] at hF9
        obtain ⟨zs2, rfl⟩ : ∃ zs, ys = List.toArray zs := ⟨ys.toList, (Array.toArray_toList).symm⟩
        have hli : IntsAre zs2 _ := lights_of (fun d c c' => ColIn.uniq N5 (fun q hq => by simp [hq])) (fun c hc => (light_le c hc).1) hcols hF9
        clear hF9
        try dsimp only
        try k_fold
        k_steps
        rename Fr _ _ _ _ => F5
        rename News _ _ _ _ => N5
        have N6 := pickD N5
        have hle16 := lights_le nums
        have hle6 := lights_len hn3
        have hle3 := lights_len3 nums
        generalize hlights : (pal nums).map lightN = lights at hli hle16 hle6 hle3
        refine Halt.mk ?_
        k_dflt (refine' useT (news := [_, _, _]) (counted_spec w D2 zs2 lights) B' F5 X' T' rfl hTL N6 ?kap ?kd ?ku ⟨listOf_is (N6 _ (.head _)).1, hli, hle16, hle6⟩ ?_)
        (case kap => exact apart_fast hTL N6 rfl)
        (case kd => ktr_room); (case ku => ktr_units)
        intro r3 h3 tk3 TL3 hT3 F3 N3 ap3 kp3 up3 out3
        refine hide ?_
        intro GG bk
        obtain ⟨dr, wr, kr, rfl, fdr, odr, hwr⟩ := out3
        refine bk ?_
        clear bk
        have N4 := join F5 fdr odr N3
        simp only [List.cons_append, List.nil_append] at N4
        clear N3 N5 N6 F5 fdr odr ap3 kp3 up3 hTL
        k_steps
        refine Halt.mk (compE (fun _ => true) Rsub (by rfl) (by decide) (by rfl) (by decide) (by rfl) ?_)
        k_steps
        refine Halt.mk ?_
        rename Fr _ _ _ _ => F5
        rename News _ _ _ _ => N5
        refine iterListE rfl F5 N5 (listOf_is (N5 (D2, _) (.tail _ (.head _))).1) ?_ ⟨?_, ?_⟩ ?_
        · rw [List.size_toArray, hli.length, List.length_map]
          exact Nat.le_trans hle6 (by decide)
        · intros; exact wpAny_tests_nil ⟨rfl, _, _, rfl, fun b o e => e⟩
        · intro C oC i v h tk m₃ E' hP hp hN hx9 F9 N9 ne9 up9
          refine hide ?_
          intro GG bk
          obtain ⟨n, t9, hn, rfl⟩ := ints_at hli hP
          refine bk ?_
          clear bk
          try dsimp only
          try k_fold
          k_steps
          exact ⟨⟨_, _, rfl, fun b o e => e⟩, [], ⟨n, t9, _, rfl, rfl, rfl⟩, by simp⟩
        · intro D3 h9 tk9 k9 ys F9 N9 ne9 up9 fr9 hF9
          rw [List.filter_eq_self.mpr (fun _ _ => rfl)] at hF9
          obtain ⟨zs3, rfl⟩ : ∃ zs, ys = List.toArray zs := ⟨ys.toList, (Array.toArray_toList).symm⟩
          have hsi : IntsAre zs3 _ := subs_of hle16 hli hF9
          clear hF9
          try dsimp only
          try k_fold
          k_steps
          rename Fr _ _ _ _ => F5
          rename News _ _ _ _ => N5
          have hse16 : ∀ x ∈ lights.map (fun n => 16 - n), x ≤ 16 := fun x hx => by
            refine hide ?_
            intro GG bk
            obtain ⟨y, _, rfl⟩ := List.mem_map.mp hx
            refine bk ?_
            clear bk
            omega
          have hse6 : (lights.map fun n => 16 - n).length ≤ 6 := by rw [List.length_map]; exact hle6
          generalize hsubs : lights.map (fun n => 16 - n) = subs at hsi hse16 hse6
          refine Halt.mk ?_
          k_dflt (refine' useT (news := [_, _, _, _, _]) (counted_spec w D3 zs3 subs) B' F5 X' T' rfl hT3 N5 ?kap ?kd ?ku ⟨listOf_is (N5 _ (.head _)).1, hsi, hse16, hse6⟩ ?_)
          (case kap => exact apart_fast hT3 N5 rfl)
          (case kd => ktr_room); (case ku => ktr_units)
          intro r4 h4 tk4 TL4 hT4 F3 N3 ap3 kp3 up3 out3
          refine hide ?_
          intro GG bk
          obtain ⟨do', wo, ko, rfl, fdr, odr, hwo⟩ := out3
          refine bk ?_
          clear bk
          have N4 := join F5 fdr odr N3
          simp only [List.cons_append, List.nil_append] at N4
          clear N3 N5 F5 fdr odr ap3 kp3 up3 hT3
          k_steps
          rename Fr _ _ _ _ => F5
          rename News _ _ _ _ => N5
          refine Halt.mk (ke_eq_ints (listOf_is (N5.get (a := dr) (by k_mem))) (listOf_is (N5 _ (.head _)).1) hwr .nil (by ktr_units) ?_)
          rw [decide_eq_false (row_ne lights)]
          k_steps
          rename Fr _ _ _ _ => F5
          rename News _ _ _ _ => N5
          rename IntsAre _ (List.reverse _) => hrv
          have hrs : rowOf subs = (rowOf lights).reverse := by rw [← hsubs]; exact row_sub hle16
          refine Halt.mk (ke_ne_ints (listOf_is (N5.get (a := do') (by k_mem))) (listOf_is (N5 _ (.head _)).1) hwo hrv (by ktr_units) ?_)
          rw [hrs]
          simp only [decide_true, Bool.not_true]
          k_steps
          rename Fr _ _ _ _ => F5
          rename News _ _ _ _ => N5
          refine hide ?_
          intro GG bk
          obtain ⟨bent, hb, hb1⟩ : ∃ b : Nat, nums.sum.fmod 2 = ((b : Nat) : Int) ∧ b ≤ 1 := bent_of _
          refine bk ?_
          clear bk
          rw [hb]
          refine Halt.mk ?_
          k_dflt (refine' useS (pairs_spec w D2 zs2 lights bent _) B' F5 X' N5 T' rfl ?kd ?ku ⟨listOf_is (N5.get (a := D2) (by k_mem)), hli, hle16, hle6, hb1⟩ ?_)
          (case kd => ktr_room); (case ku => ktr_units)
          intro r5 h5 tk5 F1 N1 up1 out1
          refine hide ?_
          intro GG bk
          obtain ⟨t5, d1, d2, w1, w2, k1, k2, u5, rfl, ft, f1, f2, gt, g1, g2, i1, i2⟩ := out1
          refine bk ?_
          clear bk
          have N1 := join F5 ft gt (join F5 f1 g1 (join F5 f2 g2 N1))
          clear ft gt f1 g1 f2 g2 F5 N5 up1
          k_steps
          have hwr9 := hwr
          have hwo9 := hwo
          rw [rowOf_eq] at hwr9 hwo9
          rename Fr _ _ _ _ => F5
          rename News _ _ _ _ => N5
          have N6 := pickF N5
          refine Halt.mk ?_
          k_dflt (refine' useT (news := [_, _, _, _, _]) (d2i_spec w dr 8 _ wr (rowN 17 lights)) B' F5 X' T' rfl hT4 N6 ?kap ?kd ?ku ⟨by decide, by decide, ?pl, hwr9, ?pd, ?pn⟩ ?_)
          (case kap => exact apart_fast hT4 N6 rfl)
          (case kd => ktr_room); (case ku => ktr_units)
          (case pl => exact listOf_is (N5.get (a := dr) (by k_mem)))
          (case pd => exact rowN_lt (by omega))
          (case pn => rw [show (rowN 17 lights).length = 17 from by simp [rowN]]; decide)
          intro r6 h6 tk6 TL5 hT5 F3 N3 ap3 kp3 up3 out3
          obtain ⟨t6, rfl⟩ := out3
          simp only [List.cons_append, List.nil_append] at N3
          clear N5 F5 ap3 kp3 up3 hT4 N6
          k_steps
          rename Fr _ _ _ _ => F5
          rename News _ _ _ _ => N5
          refine Halt.mk ?_
          k_dflt (refine' useT (news := [_, _, _, _, _]) (d2i_spec w do' 8 _ wo (rowN 17 subs)) B' F5 X' T' rfl hT5 N5 ?kap ?kd ?ku ⟨by decide, by decide, ?pl, hwo9, ?pd, ?pn⟩ ?_)
          (case kap => exact apart_fast hT5 N5 rfl)
          (case kd => ktr_room); (case ku => ktr_units)
          (case pl => exact listOf_is (N5.get (a := do') (by k_mem)))
          (case pd => exact rowN_lt (by omega))
          (case pn => rw [show (rowN 17 subs).length = 17 from by simp [rowN]]; decide)
          intro r6 h6 tk6 TL6 hT6 F3 N3 ap3 kp3 up3 out3
          obtain ⟨t6, rfl⟩ := out3
          simp only [List.cons_append, List.nil_append] at N3
          clear N5 F5 ap3 kp3 up3 hT5
          k_steps
          refine n_mulB (lt500 (row_lt hle6)) (lt500 (row_lt hse6)) fun t7 tk7 => ?_
          have hx := row_lt hle6
          have hy := row_lt hse6
          have hxy : ofD 8 (rowN 17 lights) * ofD 8 (rowN 17 subs) < 2 ^ 272 := by
            rw [show (2 : Nat) ^ 272 = 2 ^ 136 * 2 ^ 136 from by decide]
            exact Nat.mul_lt_mul'' hx hy
          have hlow := low_is hle16 hle6
          have hhigh := high_is hle16 hle6
          rw [hsubs] at hlow hhigh
          generalize hpk : ofD 8 (rowN 17 lights) * ofD 8 (rowN 17 subs) = packed at hxy hlow hhigh
          k_steps
          rename Fr _ _ _ _ => F5
          rename News _ _ _ _ => N5
          rw [p256]
          refine Halt.mk ?_
          k_dflt (refine' useT (news := [_, _, _, _, _]) (idm_spec w packed (256 ^ 16) _ _) B' F5 X' T' rfl hT6 N5 ?kap ?kd ?ku ⟨?pa, by decide, by decide, ?pb⟩ ?_)
          (case kap => exact apart_fast hT6 N5 rfl)
          (case kd => ktr_room); (case ku => ktr_units)
          (case pa => exact lt1000 hxy)
          (case pb => exact cntD_small hxy (Nat.lt_of_le_of_lt (Nat.zero_le _) (bits_b (m := 128) (by decide))) (by have := bits_b (b := 256 ^ 16) (m := 128) (by decide); omega))
          intro r6 h6 tk6 TL7 hT7 F3 N3 ap3 kp3 up3 out3
          refine hide ?_
          intro GG bk
          obtain ⟨dt, u6, u7, rfl, fdt, odt⟩ := out3
          refine bk ?_
          clear bk
          rw [hlow, hhigh] at odt
          simp only [List.cons_append, List.nil_append] at N3
          have N4 := join F5 fdt odt N3
          clear N5 F5 N3 ap3 kp3 up3 hT6
          k_steps
          rename Fr _ _ _ _ => F5
          rename News _ _ _ _ => N5
          refine Halt.mk ?_
          k_dflt (refine' useT (news := [_, _, _, _, _, _]) (i2d_spec w (ofD 8 (rowN 16 (lowOf (allOf lights)))) 8 _ _) B' F5 X' T' rfl hT7 N5 ?kap ?kd ?ku ⟨by decide, by decide, cntD_small (low_lt hle6) (by decide) (by decide)⟩ ?_)
          (case kap => exact apart_fast hT7 N5 rfl)
          (case kd => ktr_room); (case ku => ktr_units)
          intro r6 h6 tk6 TL8 hTL8 F3 N3 ap3 kp3 up3 out3
          refine hide ?_
          intro GG bk
          obtain ⟨e1, we1, ke1, rfl, fdt, odt, hwe1⟩ := out3
          refine bk ?_
          clear bk
          simp only [List.cons_append, List.nil_append] at N3
          have N4 := join F5 fdt odt N3
          clear N5 F5 N3 ap3 kp3 up3 hT7
          k_steps
          rename Fr _ _ _ _ => F5
          rename News _ _ _ _ => N5
          refine Halt.mk (ke_ne_ints (listOf_is (N5.get (a := e1) (by k_mem))) (listOf_is (N5.get (a := d1) (by k_mem))) hwe1 i1 (by ktr_units) ?_)
          rw [low_digs hle6]
          simp only [decide_true, Bool.not_true]
          k_steps
          rename Fr _ _ _ _ => F5
          rename News _ _ _ _ => N5
          refine Halt.mk ?_
          k_dflt (refine' useT (news := [_, _, _, _, _, _, _]) (i2d_spec w (ofD 8 (rowN 17 (highOf (allOf lights)))) 8 _ _) B' F5 X' T' rfl hTL8 N5 ?kap ?kd ?ku ⟨by decide, by decide, cntD_small (high_lt hle6) (by decide) (by decide)⟩ ?_)
          (case kap => exact apart_fast hTL8 N5 rfl)
          (case kd => ktr_room); (case ku => ktr_units)
          intro r6 h6 tk6 TL9 hTL9 F3 N3 ap3 kp3 up3 out3
          refine hide ?_
          intro GG bk
          obtain ⟨e2, we2, ke2, rfl, fdt, odt, hwe2⟩ := out3
          refine bk ?_
          clear bk
          simp only [List.cons_append, List.nil_append] at N3
          have N4 := join F5 fdt odt N3
          clear N5 F5 N3 ap3 kp3 up3 hTL8
          k_steps
          rename Fr _ _ _ _ => F5
          rename News _ _ _ _ => N5
          refine Halt.mk (ke_ne_ints (listOf_is (N5.get (a := e2) (by k_mem))) (listOf_is (N5.get (a := d2) (by k_mem))) hwe2 i2 (by ktr_units) ?_)
          rw [high_digs hle6]
          simp only [decide_true, Bool.not_true]
          k_steps
          rename Fr _ _ _ _ => F5
          rename News _ _ _ _ => N5
          refine Halt.mk ?_
          k_dflt (refine' useT (news := [_, _, _, _, _, _, _, _]) (idm_spec w (ofD 8 (rowN 16 (lowOf (allOf lights)))) 255 _ _) B' F5 X' T' rfl hTL9 N5 ?kap ?kd ?ku ⟨?pa, by decide, by decide, ?pb⟩ ?_)
          (case kap => exact apart_fast hTL9 N5 rfl)
          (case kd => ktr_room); (case ku => ktr_units)
          (case pa => exact Nat.lt_trans (low_lt hle6) (Nat.pow_lt_pow_right (by decide) (by decide)))
          (case pb => exact cntD_small (low_lt hle6) (Nat.lt_of_le_of_lt (Nat.zero_le _) (bits_b (m := 7) (by decide))) (by have := bits_b (b := 255) (m := 7) (by decide); omega))
          intro r6 h6 tk6 TL10 hTL10 F3 N3 ap3 kp3 up3 out3
          refine hide ?_
          intro GG bk
          obtain ⟨dt2, u8, u9, rfl, fdt, odt⟩ := out3
          refine bk ?_
          clear bk
          rw [low_mod hle16 (low_len' hle6)] at odt
          simp only [List.cons_append, List.nil_append] at N3
          have N4 := join F5 fdt odt N3
          clear N5 F5 N3 ap3 kp3 up3 hTL9
          dsimp only
          walk1
          rename Fr _ _ _ _ => F5
          rename News _ _ _ _ => N5
          refine item_tupleT (tup_is (N5 _ (.head _)).1) (by decide) (by decide) (show seqIndex? 1 2 = some 1 from rfl) rfl ?_ (by with_unfolding_all rfl)
          dsimp only
          walk1
          walk1
          walk1
          rw [if_pos (by simp)]
          k_steps
          rename Fr _ _ _ _ => F5
          rename News _ _ _ _ => N5
          obtain ⟨r9, er⟩ := high_head (ls := lights) (by omega)
          rw [er] at i2
          obtain ⟨t9, w9, rfl⟩ : ∃ t w', w2 = Value.int ((((highOf (allOf lights)).filter fun x => x = 0).length : Nat) : Int) t :: w' := by
            cases i2
            exact ⟨_, _, rfl⟩
          refine Halt.mk (item_listS (v := Value.int ((((highOf (allOf lights)).filter fun x => x = 0).length : Nat) : Int) t9) (listOf_is (N5.get (a := d2) (by k_mem))) (by decide) (by decide) rfl ?_ (by with_unfolding_all rfl))
          k_steps
          rename Fr _ _ _ _ => F5
          rename News _ _ _ _ => N5
          have hlen9 : ds.length = lights.length := by rw [← hlights, List.length_map]; exact hcols.length
          have hsz : (((ds.map Value.ref).toArray.size : Nat) : Int) = ((lights.length : Nat) : Int) := by rw [List.size_toArray, List.length_map, hlen9]
          refine Halt.mk (PyProof.Rows.len_list (listOf_is (N5.get (a := dp) (by k_mem))) (by rw [hsz]; omega) ?_)
          rw [hsz]
          dsimp only
          walk1
          refine pow_int_small (by decide) (by decide) (by rw [Int.natAbs_natCast]; omega) ?_
          have hfin : ((((((highOf (allOf lights)).filter fun x => x = 0).length : Nat) : Int) + 2 * (((lowOf (allOf lights)).length : Nat) : Int)) == ((lights.length : Nat) : Int) ^ Int.toNat 2) = true := by
            rw [beq_iff_eq]
            exact_mod_cast (three_ways lights).trans (Nat.pow_two _).symm
          dsimp only
          walk1
          rw [hfin]
          k_steps))
end
end
theorem law0 : PySem.Challenge.rw_pe0260_01.Holds := holds_law Head0.said fun _ => law_row
end Mine
theorem PySem.Challenge.cw_pe0260_01_holds : PySem.Challenge.rw_pe0260_01.Holds := by
  exact Mine.law0
