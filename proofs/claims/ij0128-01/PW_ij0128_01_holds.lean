import PyProof.Rows.All
import Wide.All
import OpenK.AllK
import Wide.FinOn
import Lean
import PySem.Challenge.RW_ij0128_01
open PySem PySem.W PyProof.Rows PySem.Calls
set_option Elab.async false
set_option compiler.extract_closed false
set_option maxRecDepth 100000
namespace Mine

-- part head
noncomputable abbrev pw : Program := PySem.Challenge.pw_ij0128_01

/-- the top's run over a tree heap, by a given step -/
noncomputable def runT (st : SharedT → Thread → Option (SharedT × Thread)) (n₀ : Nat) (ann : Option Value) : Nat → SharedT → Thread → Option SharedT
  | 0, _, _ => none
  | n + 1, s, t => match through t with
    | true => some s
    | false => match stepOk n₀ ann t with
      | false => none
      | true => match st s t with
        | some x => runT st n₀ ann n x.1 x.2
        | none => none
theorem runT_spec {tb : String → Option Builtin} {p : Program} {w : World} {n₀ : Nat} {ann : Option Value} (n : Nat) : ∀ (s : SharedT) (t : Thread) (r : SharedT),
    runT (stepT (denote tb) p w) n₀ ann n s t = some r → topRun tb p w n₀ ann n s.abs t = some r.abs := by
  induction n with
  | zero => intro s t r h; cases h
  | succ n ih =>
    intro s t r h
    rw [runT] at h
    rw [topRun]
    revert h
    cases through t with
    | true => intro h; cases h; rfl
    | false =>
      cases stepOk n₀ ann t with
      | false => intro h; cases h
      | true =>
        cases hs : stepT (denote tb) p w s t with
        | none => intro h; cases h
        | some x => intro h; dsimp only; rw [stepT_spec hs]; exact ih _ _ _ h

noncomputable abbrev annV : Option Value := some (.ref 6)
noncomputable def bootT (P : Params) : BT := (boot_heap P).objs.toList.zipIdx.foldl (fun T x => T.ins x.2 x.1) .nil
theorem bootT_abs (P : Params) : absHeap (bootT P) 11 (boot_heap P).life = boot_heap P := by kernel_rfl
theorem boot_look (P : Params) : ((boot_heap P).isNs mainGlobals && (Array.mk [] : Array GenState).size == 0, (boot_heap P).objs.size, (boot_heap P).nsMap mainGlobals "__annotations__") = (true, 11, annV) := by kernel_rfl

/-- the top's view: what a look asks of its statements -/
noncomputable def vq : Program := view pw [0, 1, 3, 5, 7, 9, 10, 12, 14, 15, 17, 18, 19, 20, 22, 23, 24, 25, 26, 28, 29, 30, 31, 32, 33, 34, 35, 36, 37, 38, 39]
noncomputable abbrev vX : Shared → Bool := fun s => xlAt vq [] s && recOk PySem.Challenge.rw_ij0128_01.row.records s
noncomputable abbrev mods : List Str := importedModules pw.main.body
noncomputable abbrev st0 (w : World) (os : OsState) : SharedT := ⟨bootT w.params, 11, (boot_heap w.params).life, Array.mk [], boot_drawn, boot_toks, os⟩
noncomputable abbrev lookB (w : World) (s : Shared) : Bool := staticsOk mods (boot_heap w.params) s.heap && namesBound pw s.heap && gensDone s && laidKept (boot_heap w.params) s.heap
/-- the library's quick step -/
noncomputable abbrev qstep (w : World) : SharedT → Thread → Option (SharedT × Thread) := PySem.W.Fast.tw10156331382660048174 (PySem.W.Fast.tw11892475500146522536 PySem.W.Fast.tw14364793385576792824) pw w
theorem qstep_eq (w : World) : stepT (denote treeTable) pw w = qstep w := by
  rw [PySem.W.Fast.te10156331382660048174, PySem.W.Fast.te11892475500146522536, PySem.W.Fast.te14364793385576792824]
/-- what the top leaves, told by looks at the state -/
noncomputable def TopLeaves {α : Type} (Yf : Shared → α) (Ya : World → α) (w : World) : Prop :=
  (fun os => (runT (qstep w) 11 annV 1900 (st0 w os) (topStub pw)).map (fun s => (lookB w s.abs, PySem.W.Fast.tw4187177175401517315 vq [] mods vX true s.abs, Yf s.abs))) = fun _ => some (true, openGood vq [], Ya w)
theorem left_whole {α : Type} {Yf : Shared → α} {Ya : World → α} (L : ∀ w, TopLeaves Yf Ya w) : LeftO pw vq [] vX Yf Ya 3782 := by
  intro w
  have o := boot_open (p := pw) (N := 3782) (by kernel_rfl) (by decide) (fun s => by kernel_rfl) w
  obtain ⟨⟨h, gs, d, k, os⟩, e, e'⟩ := Option.map_eq_some_iff.mp o
  simp only [Prod.mk.injEq] at e'
  obtain ⟨rfl, rfl, rfl, rfl⟩ := e'
  have z := boot_look w.params
  simp only [Prod.mk.injEq] at z
  obtain ⟨z1, z2, z3⟩ := z
  obtain ⟨s, hs, q⟩ := Option.map_eq_some_iff.mp (congrFun (L w) os)
  simp only [Prod.mk.injEq] at q
  obtain ⟨q1, q2, q3⟩ := q
  rw [← qstep_eq] at hs
  have r := topRun_mono (3782 - 1900) _ _ _ _ (runT_spec _ _ _ _ hs)
  have e0 : (st0 w os).abs = ⟨boot_heap w.params, Array.mk [], boot_drawn, boot_toks, os⟩ := congrArg (fun H => (⟨H, Array.mk [], boot_drawn, boot_toks, os⟩ : Shared)) (bootT_abs w.params)
  rw [e0] at r
  have t : topFrom treeTable pw w 3782 ⟨boot_heap w.params, Array.mk [], boot_drawn, boot_toks, os⟩ = some s.abs := by
    rw [topFrom]
    simp only [z1, z2, z3]
    rw [show (3782 : Nat) = 1900 + (3782 - 1900) from rfl, r]
    rw [Option.bind_some]
    dsimp only [lookB, mods] at q1
    rw [q1]
  rw [openEnds, e]
  rw [Option.bind_some, t, Option.map_some, PySem.W.Fast.te4187177175401517315, q2, q3]
/-- the library's quick looks at the law's text, one part each -/
noncomputable abbrev rowQ : OpenRow := PySem.W.Fast.tw2368527892694137696 PySem.Challenge.rw_ij0128_01
theorem look_sre : PySem.W.Fast.tw11788848310118352699 rowQ.prog.main = true := by kernel_rfl
theorem look_res : PySem.W.Fast.tw8377067652309620493 rowQ.prog = true := by kernel_rfl
theorem look_meet : PySem.W.Fast.tw17119622794617984870 rowQ.prog rowQ.prog.main.body (fun _ n => PySem.W.Fast.tw17868728402115742887 n) = true := by kernel_rfl
theorem said_look : PySem.W.Fast.tw12908688711261696721 rowQ.prog = true := by
  unfold PySem.W.Fast.tw12908688711261696721
  rewrite [look_sre, look_res, look_meet]
  kernel_rfl
theorem said_part : PySem.W.Fast.tw2436336058641802641 rowQ = true := by
  unfold PySem.W.Fast.tw2436336058641802641
  rewrite [said_look]
  kernel_rfl
theorem said_row : PySem.W.Fast.tw17960256430627541270 rowQ = true := by
  unfold PySem.W.Fast.tw17960256430627541270
  rewrite [said_part]
  kernel_rfl
theorem said_ok : OpenLaw.wellSaid PySem.Challenge.rw_ij0128_01 = true := by
  rewrite [PySem.W.Fast.te9446332074065402090]
  unfold PySem.W.Fast.tw9446332074065402090
  rewrite [said_row]
  kernel_rfl
theorem opens_ok : (chainsOk vq && opensWell PySem.Challenge.rw_ij0128_01.row.prog && (frees PySem.Challenge.rw_ij0128_01.row.toRowW && PySem.Challenge.rw_ij0128_01.row.within.isEmpty)) = true := by decide +kernel
theorem head_of (H : Hook) {d : DefRec} {kwd : List (Str × Expr)} (hdef : defOf vq PySem.Challenge.rw_ij0128_01.row.name = some (d, kwd)) (hp : PySem.Challenge.rw_ij0128_01.row.prog.theDef PySem.Challenge.rw_ij0128_01.row.name = some (d.params, d.body, d.scope))
    (hk : kwWritten? d.params.kwonlyargs d.params.kw_defaults = some kwd) (hw : PySem.Challenge.rw_ij0128_01.row.toRowW.promised)
    (c : (∀ w, TopLeaves H.obs H.val w) ∧ WalkO vq [] (XL vq []) H.says PySem.Challenge.rw_ij0128_01.row.toRowW d kwd fun f vs => PySem.call f vs) : PySem.Challenge.rw_ij0128_01.row.Holds :=
  holds_open (q := vq) (loose := []) (Xt := vX) (XP := XL vq []) (Yf := H.obs) (Ya := H.val) (YP := H.says) (N := 3782) (left_whole c.1) H.of H.keeps (fun s e => xl_of s (Bool.and_eq_true_iff.mp e).1) XL.keeps hdef hp hk (fun s e => recFacts_of (Bool.and_eq_true_iff.mp e).2) (by rfl) (row_said said_ok) opens_ok ⟨rfl, rfl, rfl, rfl, rfl, by decide +kernel⟩ hw c.2
local macro_rules | `(tactic| o_law) => `(tactic| refine holds_law said_ok (Function.const _ ?_))
local macro_rules | `(tactic| o_head $H) => `(tactic| refine head_of $H (by rfl) (by rfl) (by rfl) ?hw ?hc)
set_option maxHeartbeats 8000000 in
open_top hd for PySem.Challenge.rw_ij0128_01
/-- what the kit's hook looks at: the written part of the heap, and the three tables -/
noncomputable abbrev HK : Hook := kmHook hd.heap_1 [2, 3, 15, 17, 18, 20, 21, 29, 31, 32, 34, 35, 36, 38, 39, 41, 42, 43, 50, 52, 53, 55, 56, 57, 58, 59, 62, 69, 71, 72, 74, 75, 76, 78, 79, 81, 82, 83, 85, 86, 88, 89, 90, 91, 92, 95, 97, 98, 100, 101, 102, 104, 105, 107, 108, 109, 111, 112, 114, 115, 116, 118, 119, 121, 122, 123, 125, 126, 128, 129, 130, 132, 133, 135, 136, 137, 139, 140, 142, 143, 144, 146, 147, 149, 150, 154, 156, 157, 159, 160, 161, 163, 164, 166, 167, 168, 170, 171, 173, 174, 175, 177, 178, 180, 181, 182, 185, 186, 187, 190, 191, 192, 194, 195, 197, 198, 199, 201, 202, 204, 205, 206, 208, 209, 211, 212, 213, 215, 216, 218, 219, 220, 222, 223, 225, 226, 227, 229, 230, 232, 233, 234, 236, 237, 239, 240, 241, 243, 244, 246, 247, 248, 250, 251, 253, 254, 255, 258, 259, 260, 262, 263, 265, 266] (fun _ => by kernel_rfl) [214, 221, 261]
theorem top_f (w : World) : TopLeaves HK.obs HK.val (w.withFollow "special-get-raises" false) := by
  unfold TopLeaves
  kernel_rfl
theorem top_t (w : World) : TopLeaves HK.obs HK.val (w.withFollow "special-get-raises" true) := by
  unfold TopLeaves
  kernel_rfl
theorem top_all : ∀ w, TopLeaves HK.obs HK.val w := byRow2 "special-get-raises" top_f top_t

-- part base
theorem fill_it : (PySem.Challenge.rw_ij0128_01.Holds ∧ hd.heap_1 = hd.heap_1) → True := by k_fill; exact fun _ => trivial
noncomputable abbrev PR : Program := PySem.Challenge.rw_ij0128_01.row.prog

/-- what stands around a frame of the walk -/
noncomputable abbrev Ar (dp : Nat) (fr : Option (List Env)) (gd : Option (List Code)) (un : Nat) : Around := { handled := none, depth := dp, frames := fr, guards := gd, units := un }
/-- from a frame entered at the heap h back to its caller's frame -/
noncomputable def Back (h h₀ : Heap) (L : Addr) (m : Str → Option Value) (news : List (Addr × Obj)) : Prop := ∀ h', h.StaysIn h' → Fr h₀ L h' m ∧ News h₀ L h' news
theorem Back.fr {h h₀ h' : Heap} {L L' : Addr} {m m' : Str → Option Value} {news : List (Addr × Obj)} (b : Back h h₀ L m news) (F : Fr h L' h' m') : Fr h₀ L h' m := (b h' F.keep).1
theorem Back.news {h h₀ h' : Heap} {L L' : Addr} {m m' : Str → Option Value} {news : List (Addr × Obj)} (b : Back h h₀ L m news) (F : Fr h L' h' m') : News h₀ L h' news := (b h' F.keep).2
theorem Back.cons {h h₀ h' : Heap} {L L' a : Addr} {o : Obj} {m m' : Str → Option Value} {news news' : List (Addr × Obj)} (b : Back h h₀ L m news) (F : Fr h L' h' m') (N : News h L' h' news') (hm : (a, o) ∈ news') :
    News h₀ L h' ((a, o) :: news) ∧ ∀ p ∈ news, p.1 ≠ a := by
  have F₀ := (b h fun _ _ e => e).1
  have N₀ := (b h fun _ _ e => e).2
  have ha := (N _ hm).2.2
  obtain ⟨oL, _, _, hL, _⟩ := F₀.ns
  refine ⟨fun p hp => ?_, fun p hp q => ?_⟩
  · rcases List.mem_cons.mp hp with rfl | hp
    · refine ⟨(N _ hm).1, fun q => ?_, ?_⟩
      · dsimp only at q ha; rw [q, hL] at ha; cases ha
      · cases q : h₀.get? a with
        | none => rfl
        | some o' => have := F₀.keep _ _ q; dsimp only at ha; rw [ha] at this; cases this
    · exact b.news F p hp
  · have := (N₀ p hp).1; rw [q] at this; dsimp only at ha; rw [ha] at this; cases this
section
variable {w : World} {A : Around} {s : Shared} {Q E : Value → Shared → Prop} {K : Frag} {loose : List Str} {mean : ExcName → Option Value} {mg mb : Str → Option Value}
  {name qual : Str} {params : Arguments} {body : List Stmt} {scope : Scope} {dV kV doc pm cdv ct oc : Value} {an od : Option Addr} {osl : Array (Option Value)} {f : Addr} {args : List Value} {binds : List (Str × Value)}
  {h₀ : Heap} {L₀ : Addr} {m₀ : Str → Option Value} {news₀ : List (Addr × Obj)}

/-- enter a plain def of the top from a frame of the walk -/
theorem enterC (F₀ : Fr h₀ L₀ s.heap m₀) (N₀ : News h₀ L₀ s.heap news₀) (X₀ : K.In h₀) (T₀ : Top topProg loose mean mg mb h₀)
    (ho : K.lookup f = some ⟨oc, od, .func (fnOf name qual params body scope dV kV doc pm an cdv ct), osl⟩) (hcd : codeIn K cdv qual = true) (hroom : A.depth < recursionLimit)
    (hbind : BindsTo s (fnOf name qual params body scope dV kV doc pm an cdv ct) ⟨args, []⟩ binds) (hloc : ∀ y ∈ binds, scope.names.lookup y.1 = some .local)
    (h : ∀ L h₁, K.In s.heap → Top topProg loose mean mg mb s.heap → Back s.heap h₀ L₀ m₀ news₀ → s.heap.objs.size = L → Fr s.heap L h₁ (fun y => binds.reverse.lookup y) → News s.heap L h₁ [] →
      wpAny (model PR w) (A.deeper (envOf qual scope L f cdv)) (execs body (envOf qual scope L f cdv))
        (fun fl s' => Q (match fl with | .ret v => v | _ => .none) s') (fun _ _ => False)
        { s with heap := h₁, toks := s.toks + binds.length })
    (hco : scope.isCoroutine = false) (hgen : scope.isGenerator = false) (hk : scope.kind = .function)
    (hcell : ∀ x ∈ scope.names, x.2 ≠ .cell) : wpAny (model PR w) A (call (.ref f) args) Q E s := by
  have X := X₀.keeps F₀.keep
  have T := T₀.keeps F₀.keep
  refine wpAny_call (codeAny_call_def (fd := fnOf name qual params body scope dV kV doc pm an cdv ct) (body := body) (binds := binds) hroom (X _ _ ho) rfl T.nolimit (codeRec_of X hcd) rfl hbind hcell hloc (fun h₁ hns hk₁ => ?_) hco hgen hk)
  exact wpAny_mono (h s.heap.objs.size h₁ X T (fun h' k => ⟨F₀.keeps k, N₀.grown k⟩) rfl ⟨hns, hk₁, Nat.le_refl _⟩ News.nil) (fun fl s' hl => hl) fun _ _ x => x.elim
end

/-- what a contract hands back -/
noncomputable abbrev RetS (h₀ : Heap) (L : Addr) (m : Str → Option Value) (news : List (Addr × Obj)) (s : Shared) (Q : Value → Shared → Prop) (x : Str) : Prop :=
  ∀ (t : Tok) (h' : Heap) (tk' : Nat), Fr h₀ L h' m → News h₀ L h' news → Q (.str x t) { s with heap := h', toks := tk' }
noncomputable abbrev RetI (h₀ : Heap) (L : Addr) (m : Str → Option Value) (news : List (Addr × Obj)) (s : Shared) (Q : Value → Shared → Prop) (x : Int) : Prop :=
  ∀ (t : Tok) (h' : Heap) (tk' : Nat), Fr h₀ L h' m → News h₀ L h' news → Q (.int x t) { s with heap := h', toks := tk' }
noncomputable abbrev RetB (h₀ : Heap) (L : Addr) (m : Str → Option Value) (news : List (Addr × Obj)) (s : Shared) (Q : Value → Shared → Prop) (x : Bool) : Prop :=
  ∀ (h' : Heap) (tk' : Nat), Fr h₀ L h' m → News h₀ L h' news → Q (.bool x) { s with heap := h', toks := tk' }
noncomputable abbrev tupObj (vs : List Value) : Obj := { cls := .type "tuple", data := .seq vs.toArray }
/-- a tuple of two texts, of three, of two ints -/
noncomputable abbrev RetSS (h₀ : Heap) (L : Addr) (m : Str → Option Value) (news : List (Addr × Obj)) (s : Shared) (Q : Value → Shared → Prop) (x y : Str) : Prop :=
  ∀ (a : Addr) (t1 t2 : Tok) (h' : Heap) (tk' : Nat), Fr h₀ L h' m → News h₀ L h' ((a, tupObj [.str x t1, .str y t2]) :: news) ∧ (∀ p ∈ news, p.1 ≠ a) → Q (.ref a) { s with heap := h', toks := tk' }
noncomputable abbrev RetSSS (h₀ : Heap) (L : Addr) (m : Str → Option Value) (news : List (Addr × Obj)) (s : Shared) (Q : Value → Shared → Prop) (x y z : Str) : Prop :=
  ∀ (a : Addr) (t1 t2 t3 : Tok) (h' : Heap) (tk' : Nat), Fr h₀ L h' m → News h₀ L h' ((a, tupObj [.str x t1, .str y t2, .str z t3]) :: news) ∧ (∀ p ∈ news, p.1 ≠ a) → Q (.ref a) { s with heap := h', toks := tk' }


section
variable {h₀ : Heap} {L : Addr} {m : Str → Option Value} {news : List (Addr × Obj)} {s : Shared} {Q : Value → Shared → Prop}
theorem RetS.eq {x y : Str} (r : RetS h₀ L m news s Q x) (e : y = x) : RetS h₀ L m news s Q y := e ▸ r
theorem RetI.eq {x y : Int} (r : RetI h₀ L m news s Q x) (e : y = x) : RetI h₀ L m news s Q y := e ▸ r
theorem RetSS.eq {x y x' y' : Str} (r : RetSS h₀ L m news s Q x y) (e : x' = x) (e' : y' = y) : RetSS h₀ L m news s Q x' y' := e ▸ e' ▸ r
theorem RetSSS.eq {x y z x' y' z' : Str} (r : RetSSS h₀ L m news s Q x y z) (e : x' = x) (e' : y' = y) (e'' : z' = z) : RetSSS h₀ L m news s Q x' y' z' := e ▸ e' ▸ e'' ▸ r
theorem RetB.eq {x y : Bool} (r : RetB h₀ L m news s Q x) (e : y = x) : RetB h₀ L m news s Q y := e ▸ r
end

-- part rules
theorem reset_rules : True := by w_top off; trivial
theorem plain_isub_nested : plainId "issubclass.nested" = true := by decide +kernel
theorem kind_isub_nested : builtinKind "issubclass.nested" = none := by decide +kernel
theorem args_isub_nested (a b c : Value) : argsOk "issubclass.nested" ⟨[a, b, c], []⟩ := by unfold argsOk; kernel_rfl
theorem ty_str : typeOf (.type "str") = pure (.type "type") := by kernel_rfl
section
variable {prog : Program} {w : World} {A : Around} {E : Value → Shared → Prop} {s : Shared}
theorem isub_nested_str {dep : Int} {tk : Tok} {Q : Fin → Shared → Prop} (hq : Q (.done (.ret (.bool true))) s) :
    wpAny (model prog w) A (Builtin.«issubclass.nested» ⟨[.type "str", .type "str", .int dep tk], []⟩) Q E s := by
  have hm := ty_str
  have hself := isSubtype_str_str
  unfold Builtin.«issubclass.nested»
  dsimp only
  refine wpAny_bind (wpAny_of_eq hm ?_)
  rw [if_pos (by rfl)]
  refine wpAny_bind ?_
  repeat (any_goals (first | assumption | (rw [hm]) | (rw [hself]) | wp_step))
theorem isub_code {dep : Int} {tk : Tok} {R : Result → Shared → Prop} (h : R (.ok (.ret (.bool true))) s) :
    codeAny (model prog w) A (.call (.builtin "issubclass.nested") ⟨[.type "str", .type "str", .int dep tk], []⟩) R s := by
  refine codeAny_call_builtin plain_isub_nested F.entry_issubclass_nested ?_
  have ok := args_isub_nested (.type "str") (.type "str") (.int dep tk)
  have hfin : wpAny (model prog w) A.in1 (Builtin.«issubclass.nested» ⟨[.type "str", .type "str", .int dep tk], []⟩) (fun fin s' => match fin with | .done f => R (.ok f) s' | .again c' => c'.quiet = true ∧ codeAny (model prog w) A c' R s') (fun e s' => R (.error e) s') s := isub_nested_str h
  simp only [checkBuiltinCall, kind_isub_nested]
  cases hsig : Manifest.signature? "issubclass.nested" with
  | none => exact wpAny_pure hfin
  | some sig =>
    simp only [argsOk, hsig] at ok
    have h2 : Bind.checkArgs "issubclass.nested" sig ⟨[.type "str", .type "str", .int dep tk], []⟩ = pure () := ok
    show wpAny _ _ (Bind.checkArgs "issubclass.nested" sig ⟨[.type "str", .type "str", .int dep tk], []⟩) _ _ s
    rw [h2]; exact wpAny_pure hfin
theorem isub_nested_tuple {x : Value} {a : Addr} {tk : Tok} {Q : Fin → Shared → Prop} 
   (ha : s.heap.get? a = some { cls := .type "tuple", data := .seq #[.type "str", x] })
   (hq : Q (.done (.ret (.bool true))) s) :
    wpAny (model prog w) A (Builtin.«issubclass.nested» ⟨[.type "str", .ref a, .int 0 tk], []⟩) Q E s := by
  obtain ⟨h, g, d, t, os⟩ := s
  have hT2 : (⟨h, g, d, t, os⟩ : Shared).TypeIs (.ref a) "tuple" := ⟨_, ha, rfl⟩
  have f1 := F.isi_sub_tuple
  repeat (any_goals (first | assumption | wp_step))
  refine isub_code ?_
  dsimp only
  repeat (any_goals (first | assumption | wp_step))
theorem issub_str {x : Value} {a : Addr} {Q : Value → Shared → Prop} {h₀ : Heap} {L : Addr} {news : List (Addr × Obj)} (N : News h₀ L s.heap news)
    (ha : (a, ({ cls := .type "tuple", data := .seq #[.type "str", x] } : Obj)) ∈ news) (hq : Q (.bool true) s) :
    wpAny (model prog w) A (call (.builtin "issubclass") [.type "str", .ref a]) Q E s := by
  refine call_issubclass (S := fun A R s' => s' = s ∧ R (.ok (.ret (.bool true))) s') (fun _ _ _ _ s' hs => ?_) ⟨rfl, hq⟩
  obtain ⟨rfl, hs⟩ := hs
  exact issubclass_outer (isub_nested_tuple (N _ ha).1 hs)
end
--MACRO
local macro_rules | `(tactic| walk_at "call builtin:issubclass") => `(tactic| (k_here; k_dflt (refine' issub_str ?N ?h ?_; (case N => k_asm); (case h => k_mem); k_whole)))
--END

section
variable {h₀ h : Heap} {L : Addr} {m : Str → Option Value}
theorem nam1 {x1 : Str} {v1 : Value} (F : Fr h₀ L h m) (e1 : m x1 = some v1) : Fr h₀ L h (fun y => if y = x1 then some v1 else m y) := by
  have : (fun y => if y = x1 then some v1 else m y) = m := by
    funext y
    (repeat' split) <;> first | rfl | (subst_vars; exact Eq.symm (by assumption))
  rw [this]; exact F
theorem nam2 {x1 x2 : Str} {v1 v2 : Value} (F : Fr h₀ L h m) (e1 : m x1 = some v1) (e2 : m x2 = some v2) : Fr h₀ L h (fun y => if y = x1 then some v1 else if y = x2 then some v2 else m y) := by
  have : (fun y => if y = x1 then some v1 else if y = x2 then some v2 else m y) = m := by
    funext y
    (repeat' split) <;> first | rfl | (subst_vars; exact Eq.symm (by assumption))
  rw [this]; exact F
theorem nam3 {x1 x2 x3 : Str} {v1 v2 v3 : Value} (F : Fr h₀ L h m) (e1 : m x1 = some v1) (e2 : m x2 = some v2) (e3 : m x3 = some v3) : Fr h₀ L h (fun y => if y = x1 then some v1 else if y = x2 then some v2 else if y = x3 then some v3 else m y) := by
  have : (fun y => if y = x1 then some v1 else if y = x2 then some v2 else if y = x3 then some v3 else m y) = m := by
    funext y
    (repeat' split) <;> first | rfl | (subst_vars; exact Eq.symm (by assumption))
  rw [this]; exact F
theorem nam4 {x1 x2 x3 x4 : Str} {v1 v2 v3 v4 : Value} (F : Fr h₀ L h m) (e1 : m x1 = some v1) (e2 : m x2 = some v2) (e3 : m x3 = some v3) (e4 : m x4 = some v4) : Fr h₀ L h (fun y => if y = x1 then some v1 else if y = x2 then some v2 else if y = x3 then some v3 else if y = x4 then some v4 else m y) := by
  have : (fun y => if y = x1 then some v1 else if y = x2 then some v2 else if y = x3 then some v3 else if y = x4 then some v4 else m y) = m := by
    funext y
    (repeat' split) <;> first | rfl | (subst_vars; exact Eq.symm (by assumption))
  rw [this]; exact F
theorem nam5 {x1 x2 x3 x4 x5 : Str} {v1 v2 v3 v4 v5 : Value} (F : Fr h₀ L h m) (e1 : m x1 = some v1) (e2 : m x2 = some v2) (e3 : m x3 = some v3) (e4 : m x4 = some v4) (e5 : m x5 = some v5) : Fr h₀ L h (fun y => if y = x1 then some v1 else if y = x2 then some v2 else if y = x3 then some v3 else if y = x4 then some v4 else if y = x5 then some v5 else m y) := by
  have : (fun y => if y = x1 then some v1 else if y = x2 then some v2 else if y = x3 then some v3 else if y = x4 then some v4 else if y = x5 then some v5 else m y) = m := by
    funext y
    (repeat' split) <;> first | rfl | (subst_vars; exact Eq.symm (by assumption))
  rw [this]; exact F
theorem nam6 {x1 x2 x3 x4 x5 x6 : Str} {v1 v2 v3 v4 v5 v6 : Value} (F : Fr h₀ L h m) (e1 : m x1 = some v1) (e2 : m x2 = some v2) (e3 : m x3 = some v3) (e4 : m x4 = some v4) (e5 : m x5 = some v5) (e6 : m x6 = some v6) : Fr h₀ L h (fun y => if y = x1 then some v1 else if y = x2 then some v2 else if y = x3 then some v3 else if y = x4 then some v4 else if y = x5 then some v5 else if y = x6 then some v6 else m y) := by
  have : (fun y => if y = x1 then some v1 else if y = x2 then some v2 else if y = x3 then some v3 else if y = x4 then some v4 else if y = x5 then some v5 else if y = x6 then some v6 else m y) = m := by
    funext y
    (repeat' split) <;> first | rfl | (subst_vars; exact Eq.symm (by assumption))
  rw [this]; exact F
theorem nam7 {x1 x2 x3 x4 x5 x6 x7 : Str} {v1 v2 v3 v4 v5 v6 v7 : Value} (F : Fr h₀ L h m) (e1 : m x1 = some v1) (e2 : m x2 = some v2) (e3 : m x3 = some v3) (e4 : m x4 = some v4) (e5 : m x5 = some v5) (e6 : m x6 = some v6) (e7 : m x7 = some v7) : Fr h₀ L h (fun y => if y = x1 then some v1 else if y = x2 then some v2 else if y = x3 then some v3 else if y = x4 then some v4 else if y = x5 then some v5 else if y = x6 then some v6 else if y = x7 then some v7 else m y) := by
  have : (fun y => if y = x1 then some v1 else if y = x2 then some v2 else if y = x3 then some v3 else if y = x4 then some v4 else if y = x5 then some v5 else if y = x6 then some v6 else if y = x7 then some v7 else m y) = m := by
    funext y
    (repeat' split) <;> first | rfl | (subst_vars; exact Eq.symm (by assumption))
  rw [this]; exact F
theorem nam8 {x1 x2 x3 x4 x5 x6 x7 x8 : Str} {v1 v2 v3 v4 v5 v6 v7 v8 : Value} (F : Fr h₀ L h m) (e1 : m x1 = some v1) (e2 : m x2 = some v2) (e3 : m x3 = some v3) (e4 : m x4 = some v4) (e5 : m x5 = some v5) (e6 : m x6 = some v6) (e7 : m x7 = some v7) (e8 : m x8 = some v8) : Fr h₀ L h (fun y => if y = x1 then some v1 else if y = x2 then some v2 else if y = x3 then some v3 else if y = x4 then some v4 else if y = x5 then some v5 else if y = x6 then some v6 else if y = x7 then some v7 else if y = x8 then some v8 else m y) := by
  have : (fun y => if y = x1 then some v1 else if y = x2 then some v2 else if y = x3 then some v3 else if y = x4 then some v4 else if y = x5 then some v5 else if y = x6 then some v6 else if y = x7 then some v7 else if y = x8 then some v8 else m y) = m := by
    funext y
    (repeat' split) <;> first | rfl | (subst_vars; exact Eq.symm (by assumption))
  rw [this]; exact F
theorem nam9 {x1 x2 x3 x4 x5 x6 x7 x8 x9 : Str} {v1 v2 v3 v4 v5 v6 v7 v8 v9 : Value} (F : Fr h₀ L h m) (e1 : m x1 = some v1) (e2 : m x2 = some v2) (e3 : m x3 = some v3) (e4 : m x4 = some v4) (e5 : m x5 = some v5) (e6 : m x6 = some v6) (e7 : m x7 = some v7) (e8 : m x8 = some v8) (e9 : m x9 = some v9) : Fr h₀ L h (fun y => if y = x1 then some v1 else if y = x2 then some v2 else if y = x3 then some v3 else if y = x4 then some v4 else if y = x5 then some v5 else if y = x6 then some v6 else if y = x7 then some v7 else if y = x8 then some v8 else if y = x9 then some v9 else m y) := by
  have : (fun y => if y = x1 then some v1 else if y = x2 then some v2 else if y = x3 then some v3 else if y = x4 then some v4 else if y = x5 then some v5 else if y = x6 then some v6 else if y = x7 then some v7 else if y = x8 then some v8 else if y = x9 then some v9 else m y) = m := by
    funext y
    (repeat' split) <;> first | rfl | (subst_vars; exact Eq.symm (by assumption))
  rw [this]; exact F
end

-- part pure1
theorem reset_pure1 : True := by w_top off; trivial
/-! texts as lists of numbers -/
noncomputable abbrev cs (x : Str) : List Nat := x.cps.toList
noncomputable def S (l : List Nat) : Str := ⟨l.toArray⟩
theorem S_cs (l : List Nat) : cs (S l) = l := by simp [S]
theorem S_of (x : Str) : S (cs x) = x := by cases x; simp [S]
theorem S_len (l : List Nat) : (S l).length = l.length := by simp [S, Str.length]
theorem cs_len (x : Str) : (cs x).length = x.length := by simp [Str.length]
theorem S_inj {a b : List Nat} (h : S a = S b) : a = b := by rw [← S_cs a, h, S_cs]
theorem S_eq {a b : List Nat} : S a = S b ↔ a = b := ⟨S_inj, fun h => h ▸ rfl⟩
theorem S_beq (a b : List Nat) : (S a == S b) = (a == b) := by
  rw [Bool.eq_iff_iff, beq_iff_eq, beq_iff_eq, S_eq]
theorem S_bne (a b : List Nat) : (S a != S b) = (a != b) := by simp only [bne, S_beq]
theorem S_append (a b : List Nat) : S a ++ S b = S (a ++ b) := by
  show Str.append _ _ = _; simp [Str.append, S]
theorem lit_slash : Str.ofString "/" = S [47] := by decide +kernel
theorem lit_dot : Str.ofString "." = S [46] := by decide +kernel
theorem lit_dd : Str.ofString ".." = S [46, 46] := by decide +kernel
theorem lit_two : Str.ofString "//" = S [47, 47] := by decide +kernel
theorem lit_nil : Str.ofString "" = S [] := by decide +kernel

theorem mm_nat (a n : Nat) : max (0 : Int) (min (a : Int) (n : Int)) = ((min a n : Nat) : Int) := by omega
theorem sl_idx (a b n : Nat) : Builtin.Str.strSliceIndices (some (a : Int)) (some (b : Int)) 1 n = sliceRange ((min a n : Nat) : Int) ((min b n : Nat) : Int) 1 := by
  have h1 : ¬ ((a : Int) < 0) := Int.not_lt.mpr (Int.natCast_nonneg a)
  have h2 : ¬ ((b : Int) < 0) := Int.not_lt.mpr (Int.natCast_nonneg b)
  have h3 : ((1 : Int) > 0) = True := by simp
  simp only [Builtin.Str.strSliceIndices, h1, h2, h3, if_false, if_true, mm_nat]
theorem range_nil {x y : Nat} (h : y ≤ x) : sliceRange (x : Int) (y : Int) 1 = [] := by
  have h3 : ((1 : Int) > 0) = True := by simp
  simp only [sliceRange, h3, if_true, if_neg (Int.not_lt.mpr (Int.ofNat_le.mpr h))]
  rfl
theorem sl_mid (l : List Nat) {i j : Int} (hi : 0 ≤ i) (hj : 0 ≤ j) : Txt.slice (S l) (some i) (some j) = S ((l.take j.toNat).drop i.toNat) := by
  show StrLaws.sliceText (S l) (some i) (some j) = _
  obtain ⟨a, rfl⟩ := Int.eq_ofNat_of_zero_le hi
  obtain ⟨b, rfl⟩ := Int.eq_ofNat_of_zero_le hj
  have tk : l.take (min b l.length) = l.take b := by
    rcases Nat.le_total b l.length with q | q
    · rw [Nat.min_eq_left q]
    · rw [Nat.min_eq_right q, List.take_of_length_le (Nat.le_refl _), List.take_of_length_le q]
  have hl : min b l.length ≤ (S l).length := by rw [S_len]; exact Nat.min_le_right _ _
  rw [Int.toNat_natCast, Int.toNat_natCast]
  rcases Nat.le_total a (min b l.length) with h | h
  · have e : StrLaws.sliceText (S l) (some (a : Int)) (some (b : Int)) = StrLaws.sliceText (S l) (some (a : Int)) (some ((min b l.length : Nat) : Int)) := by
      unfold StrLaws.sliceText
      rw [S_len, sl_idx, sl_idx, Nat.min_eq_left (Nat.min_le_right b l.length)]
    rw [e, StrLaws.sliceText_nat _ h hl, ← tk, List.drop_take]
    rfl
  · have e : StrLaws.sliceText (S l) (some (a : Int)) (some (b : Int)) = StrLaws.sliceText (S l) (some ((min b l.length : Nat) : Int)) (some ((min b l.length : Nat) : Int)) := by
      unfold StrLaws.sliceText
      rw [S_len, sl_idx, sl_idx, Nat.min_eq_left (Nat.min_le_right b l.length), range_nil (Nat.le_refl _), range_nil (Nat.le_min.mpr ⟨h, Nat.min_le_right _ _⟩)]
    rw [e, StrLaws.sliceText_nat _ (Nat.le_refl _) hl, Nat.sub_self, List.take_zero, List.drop_eq_nil_of_le (by rw [List.length_take]; exact h)]
    rfl

theorem sl_to (l : List Nat) {j : Int} (hj : 0 ≤ j) : Txt.slice (S l) none (some j) = S (l.take j.toNat) := by
  have e : Txt.slice (S l) none (some j) = Txt.slice (S l) (some 0) (some j) := by
    show StrLaws.sliceText (S l) none (some j) = StrLaws.sliceText (S l) (some 0) (some j)
    unfold StrLaws.sliceText; rw [StrLaws.sliceIdx_none_lo]
  rw [e, sl_mid l (by omega) hj]; simp
theorem sl_from (l : List Nat) {i : Int} (hi : 0 ≤ i) : Txt.slice (S l) (some i) none = S (l.drop i.toNat) := by
  have e : Txt.slice (S l) (some i) none = Txt.slice (S l) (some i) (some (l.length : Int)) := by
    show StrLaws.sliceText (S l) (some i) none = StrLaws.sliceText (S l) (some i) (some (l.length : Int))
    unfold StrLaws.sliceText; rw [StrLaws.sliceIdx_none_hi, S_len]
  rw [e, sl_mid l hi (by omega)]; simp
theorem sl_nat (l : List Nat) (i j : Nat) : Txt.slice (S l) (some (i : Int)) (some (j : Int)) = S ((l.take j).drop i) := by
  rw [sl_mid l (by omega) (by omega)]; simp

/-- the place behind the last c, 0 where there is none -/
noncomputable def lst (c : Nat) (l : List Nat) : Nat := l.length - (l.reverse.takeWhile (· != c)).length
/-- the first place from i on that holds c, the length where there is none -/
noncomputable def fnd (c : Nat) (l : List Nat) (i : Nat) : Nat := i + ((l.drop i).takeWhile (· != c)).length
/-- the place behind the run of c from i on -/
noncomputable def run (c : Nat) (l : List Nat) (i : Nat) : Nat := i + ((l.drop i).takeWhile (· == c)).length

theorem takeWhile_len_spec {p : Nat → Bool} : ∀ (l : List Nat), (∀ k, k < (l.takeWhile p).length → ∃ a, l[k]? = some a ∧ p a = true) ∧ (∀ a, l[(l.takeWhile p).length]? = some a → p a = false) ∧ (l.takeWhile p).length ≤ l.length
  | [] => by simp
  | a :: r => by
    have ih := takeWhile_len_spec (p := p) r
    by_cases h : p a = true
    · rw [List.takeWhile_cons_of_pos h]
      refine ⟨fun k hk => ?_, fun b hb => ?_, by simp only [List.length_cons]; have := ih.2.2; omega⟩
      · cases k with
        | zero => exact ⟨a, rfl, h⟩
        | succ k => exact ih.1 k (by simp only [List.length_cons] at hk; omega)
      · exact ih.2.1 b (by simpa using hb)
    · rw [List.takeWhile_cons_of_neg h]
      refine ⟨fun k hk => by simp at hk, fun b hb => ?_, by simp⟩
      have : b = a := by simpa using hb.symm
      rw [this]; simpa using h
theorem fnd_spec (c : Nat) (l : List Nat) (i : Nat) (hi : i ≤ l.length) : i ≤ fnd c l i ∧ fnd c l i ≤ l.length ∧ (∀ k, i ≤ k → k < fnd c l i → l[k]? ≠ some c) ∧ (fnd c l i < l.length → l[fnd c l i]? = some c) := by
  have h := takeWhile_len_spec (p := (· != c)) (l.drop i)
  unfold fnd
  generalize hn : ((l.drop i).takeWhile (· != c)).length = n at h
  have hle := h.2.2
  rw [List.length_drop] at hle
  refine ⟨by omega, by omega, fun k h1 h2 he => ?_, fun hlt => ?_⟩
  · obtain ⟨a, ha, hp⟩ := h.1 (k - i) (by omega)
    rw [List.getElem?_drop, show i + (k - i) = k by omega, he] at ha
    cases ha; simp at hp
  · have := h.2.1 (l[i + n]) (by rw [List.getElem?_drop]; simp [hlt])
    have e : l[i + n] = c := by simpa using this
    rw [← e]; simp [hlt]
theorem run_spec (c : Nat) (l : List Nat) (i : Nat) (hi : i ≤ l.length) : i ≤ run c l i ∧ run c l i ≤ l.length ∧ (∀ k, i ≤ k → k < run c l i → l[k]? = some c) ∧ l[run c l i]? ≠ some c := by
  have h := takeWhile_len_spec (p := (· == c)) (l.drop i)
  unfold run
  generalize hn : ((l.drop i).takeWhile (· == c)).length = n at h
  have hle := h.2.2
  rw [List.length_drop] at hle
  refine ⟨by omega, by omega, fun k h1 h2 => ?_, fun he => ?_⟩
  · obtain ⟨a, ha, hp⟩ := h.1 (k - i) (by omega)
    rw [List.getElem?_drop, show i + (k - i) = k by omega] at ha
    rw [ha]; simpa using hp
  · have := h.2.1 c (by rw [List.getElem?_drop]; exact he)
    simp at this
theorem lst_spec (c : Nat) (l : List Nat) : lst c l ≤ l.length ∧ (∀ k, lst c l ≤ k → l[k]? ≠ some c) ∧ (0 < lst c l → l[lst c l - 1]? = some c) := by
  have h := takeWhile_len_spec (p := (· != c)) l.reverse
  unfold lst
  generalize hn : (l.reverse.takeWhile (· != c)).length = n at h
  have hle := h.2.2
  rw [List.length_reverse] at hle
  refine ⟨by omega, fun k h1 he => ?_, fun hlt => ?_⟩
  · have hk : k < l.length := by
      rcases Nat.lt_or_ge k l.length with q | q
      · exact q
      · rw [List.getElem?_eq_none q] at he; cases he
    obtain ⟨a, ha, hp⟩ := h.1 (l.length - 1 - k) (by omega)
    rw [List.getElem?_reverse (by omega), show l.length - 1 - (l.length - 1 - k) = k by omega, he] at ha
    cases ha; simp at hp
  · have := h.2.1 (l[l.length - n - 1]) (by rw [List.getElem?_reverse (by omega), show l.length - 1 - n = l.length - n - 1 by omega]; simp)
    have e : l[l.length - n - 1] = c := by simpa using this
    rw [← e]; simp
theorem lst_uniq {c : Nat} {l : List Nat} {n : Nat} (h1 : ∀ k, n ≤ k → l[k]? ≠ some c) (h2 : 0 < n → l[n - 1]? = some c) : lst c l = n := by
  have h := lst_spec c l
  rcases Nat.lt_trichotomy (lst c l) n with q | q | q
  · exact absurd (h2 (by omega)) (h.2.1 _ (by omega))
  · exact q
  · exact absurd (h.2.2 (by omega)) (h1 _ (by omega))
theorem fnd_uniq {c : Nat} {l : List Nat} {i n : Nat} (hi : i ≤ n) (hn : n ≤ l.length) (h1 : ∀ k, i ≤ k → k < n → l[k]? ≠ some c) (h2 : n < l.length → l[n]? = some c) : fnd c l i = n := by
  have h := fnd_spec c l i (by omega)
  rcases Nat.lt_trichotomy (fnd c l i) n with q | q | q
  · exact absurd (h.2.2.2 (by omega)) (h1 _ (by omega) q)
  · exact q
  · exact absurd (h2 (by omega)) (h.2.2.1 _ hi q)
theorem run_uniq {c : Nat} {l : List Nat} {i n : Nat} (hi : i ≤ n) (hn : n ≤ l.length) (h1 : ∀ k, i ≤ k → k < n → l[k]? = some c) (h2 : l[n]? ≠ some c) : run c l i = n := by
  have h := run_spec c l i (by omega)
  rcases Nat.lt_trichotomy (run c l i) n with q | q | q
  · exact absurd (h1 _ (by omega) q) h.2.2.2
  · exact q
  · exact absurd (h.2.2.1 _ hi q) h2

theorem subAt_c (l : List Nat) (c i : Nat) : StrLaws.At (S l) (S [c]) (S l).length i ↔ l[i]? = some c := by
  have := StrLaws.subAt_one (S l) c i
  rw [show (S l).cps.toList = l from S_cs l] at this
  exact this
theorem rfind_S (c : Nat) (l : List Nat) : Txt.rfind (S l) (S [c]) = (lst c l : Int) - 1 := by
  rcases PyProof.Rows.rfind_whole (S l) (S [c]) with ⟨e, h⟩ | ⟨i, e, h1, h2⟩
  · rw [e, lst_uniq (n := 0) (fun k _ q => h k ((subAt_c l c k).mpr q)) (by omega)]; rfl
  · rw [e, lst_uniq (n := i + 1) (fun k hk q => h2 k (by omega) ((subAt_c l c k).mpr q)) (fun _ => (subAt_c l c i).mp h1)]; omega
theorem find3_S (c : Nat) (l : List Nat) {i : Int} (h0 : 0 ≤ i) (hi : i ≤ l.length) : Txt.find3 (S l) (S [c]) i = if fnd c l i.toNat < l.length then (fnd c l i.toNat : Int) else -1 := by
  have hf : fromIndex (S l).length i = i.toNat := by unfold fromIndex; rw [if_neg (by omega)]; omega
  have g : ∀ v, v < l.length → ((S l).cps.getD v 0 = c ↔ l[v]? = some c) := by
    intro v hv
    show (l.toArray.getD v 0 = c) ↔ _
    rw [Array.getD_eq_getD_getElem?]
    simp [hv]
  rcases StrLaws.find3_spec (S l) c i with ⟨e, h⟩ | ⟨k, e, h1, h2, h3, h4⟩
  · rw [hf, S_len] at h
    rw [show S [c] = (⟨#[c]⟩ : Str) from rfl, e, fnd_uniq (n := l.length) (by omega) (Nat.le_refl _) (fun k h1 h2 q => h k h1 h2 ((g k h2).mpr q)) (by omega), if_neg (Nat.lt_irrefl _)]
  · rw [hf] at h1 h4
    rw [S_len] at h2
    rw [show S [c] = (⟨#[c]⟩ : Str) from rfl, e, fnd_uniq (n := k) h1 (by omega) (fun v h5 h6 q => h4 v h5 h6 ((g v (by omega)).mpr q)) (fun _ => (g k h2).mp h3), if_pos h2]
theorem startswith_S (c : Nat) (l : List Nat) : Txt.startswith (S l) (S [c]) = (l.head? == some c) := by
  unfold Txt.startswith
  rw [StrLaws.subAt_eq, S_len, S_len, show (S l).cps.toList = l from S_cs l, show (S [c]).cps.toList = [c] from S_cs [c]]
  cases l <;> simp
theorem rstrip_S (c : Nat) (l : List Nat) : Txt.rstripChars (S l) (S [c]) = S (l.take (l.length - (l.reverse.takeWhile (· == c)).length)) := by
  have hg : ∀ k : Nat, (S [c]).cps.contains k = (k == c) := by intro k; rw [Bool.eq_iff_iff]; simp [S]
  have hgoes : (S [c]).cps.contains = (· == c) := funext hg
  have hs : Txt.rstripChars (S l) (S [c]) = PySem.stripped (· == c) false true (S l) := by
    unfold Txt.rstripChars Txt.stripBy
    rw [hgoes]
    split
    · rename_i h
      unfold stripSame stripLo stripHi at h
      simp only [Bool.false_eq_true, if_false, if_true, Bool.and_eq_true, beq_iff_eq] at h
      unfold PySem.stripped stripLo stripHi
      simp only [Bool.false_eq_true, if_false, if_true]
      rw [h.2]
      exact (StrLaws.sub_whole (S l)).symm
    · rfl
  rw [hs]
  unfold PySem.stripped stripLo stripHi
  simp only [Bool.false_eq_true, if_false, if_true, List.drop_zero]
  rw [← S_of (Builtin.Str.strSub _ _ _)]
  congr 1
  show (Builtin.Str.strSub _ _ _).cps.toList = _
  rw [StrLaws.strSub_toList, S_len, show (S l).cps.toList = l from S_cs l]
  simp
theorem mul_S (c : Nat) (n : Nat) : Txt.mul (S [c]) (n : Int) = S (List.replicate n c) := by
  unfold Txt.mul
  split
  · rw [show n = 0 by omega]; rfl
  · split
    · rename_i h1 h2
      have h3 : (n : Int) = 1 := by simpa [S_len] using h2
      have : n = 1 := by omega
      rw [this]; rfl
    · apply Str.ext'
      apply Array.toList_inj.mp
      have : ∀ (k : Nat) (acc : Array Nat), ((List.replicate k (S [c]).cps).foldl (· ++ ·) acc).toList = acc.toList ++ List.replicate k c := by
        intro k
        induction k with
        | zero => simp
        | succ k ih => intro acc; rw [List.replicate_succ, List.foldl_cons, ih]; simp [S, List.replicate_succ]
      show ((List.replicate (n : Int).toNat (S [c]).cps).foldl (· ++ ·) #[]).toList = _
      rw [this]; simp [S]

/-- cut at each c -/
noncomputable def splitL (c : Nat) : List Nat → List (List Nat)
  | [] => [[]]
  | d :: r => if d = c then [] :: splitL c r else match splitL c r with
    | [] => [[d]]
    | h :: t => (d :: h) :: t
noncomputable def joinL (c : Nat) : List (List Nat) → List Nat
  | [] => []
  | [x] => x
  | x :: y :: r => x ++ c :: joinL c (y :: r)
theorem splitL_ne (c : Nat) : ∀ l, splitL c l ≠ []
  | [] => by simp [splitL]
  | d :: r => by
    unfold splitL
    split
    · simp
    · split <;> simp
theorem splitL_join (c : Nat) : ∀ ps : List (List Nat), ps ≠ [] → (∀ p ∈ ps, c ∉ p) → splitL c (joinL c ps) = ps := by
  have one : ∀ (p r : List Nat), c ∉ p → splitL c (p ++ c :: r) = p :: splitL c r := by
    intro p
    induction p with
    | nil => intro r _; simp [splitL]
    | cons a p ih =>
      intro r h
      have ha : a ≠ c := fun q => h (by simp [q])
      rw [List.cons_append, splitL, if_neg ha, ih r (fun q => h (by simp [q]))]
  have whole : ∀ (p : List Nat), c ∉ p → splitL c p = [p] := by
    intro p
    induction p with
    | nil => intro _; rfl
    | cons a p ih =>
      intro h
      rw [splitL, if_neg (fun q => h (by simp [q])), ih (fun q => h (by simp [q]))]
  intro ps
  induction ps with
  | nil => intro h; exact absurd rfl h
  | cons p r ih =>
    intro _ h
    cases r with
    | nil => exact whole p (h p (by simp))
    | cons q t => rw [joinL, one p _ (h p (by simp)), ih (by simp) (fun x hx => h x (by simp [hx]))]
theorem join_S (c : Nat) : ∀ ls : List (List Nat), Str.join (S [c]) (ls.map S) = S (joinL c ls)
  | [] => rfl
  | [x] => rfl
  | x :: y :: r => by
    have ih := join_S c (y :: r)
    simp only [List.map_cons] at ih ⊢
    show S x ++ S [c] ++ Str.join (S [c]) (S y :: r.map S) = _
    rw [ih, S_append, S_append, joinL]
    simp
theorem split_S (c : Nat) (l : List Nat) : Txt.split (S l) (S [c]) = (splitL c l).map S := by
  have h1 := StrLaws.join_split (S l) (S [c])
  have h2 := fun p => StrLaws.split_free (S l) c p
  have hne : Txt.split (S l) (S [c]) ≠ [] := by
    unfold Txt.split
    repeat' split
    · simp
    · simp
    · rw [StrLaws.partsBetween_eq]
      obtain ⟨p, r, e⟩ := StrLaws.partsFrom_ne (S l) (S [c]).length 0 (Builtin.Str.occurrences (S l) (S [c]) 0 (S l).length ((S l).length + 1))
      rw [e]; simp
  have hm : Txt.split (S l) (S [c]) = ((Txt.split (S l) (S [c])).map cs).map S := by
    rw [List.map_map]
    conv => lhs; rw [← List.map_id (Txt.split (S l) (S [c]))]
    exact List.map_congr_left fun a _ => (S_of a).symm
  rw [hm] at h1
  rw [join_S] at h1
  have e := splitL_join c ((Txt.split (S l) (S [c])).map cs) (by simpa using hne) (fun p hp => by
    obtain ⟨q, hq, rfl⟩ := List.mem_map.mp hp
    exact h2 q hq)
  rw [S_inj h1] at e
  rw [hm, ← e]
theorem sl_one (l : List Nat) (e : Nat) : (l.take (e + 1)).drop e = l[e]?.toList := by
  apply List.ext_getElem?
  intro k
  rw [List.getElem?_drop, List.getElem?_take]
  cases h : l[e]? with
  | none =>
    have : l.length ≤ e := by simpa using h
    rw [List.getElem?_eq_none (by omega)]
    simp
  | some a =>
    cases k with
    | zero => simp [h]
    | succ k => rw [if_neg (by omega)]; simp
theorem sign_at (x : Str) (e : Nat) : Txt.slice x (some (e : Int)) (some ((e : Int) + 1)) = S (cs x)[e]?.toList := by
  conv => lhs; rw [← S_of x]
  rw [show ((e : Int) + 1) = ((e + 1 : Nat) : Int) by omega, sl_nat, sl_one]
theorem sign_is (x : Str) (e c : Nat) : Txt.slice x (some (e : Int)) (some ((e : Int) + 1)) = S [c] ↔ (cs x)[e]? = some c := by
  rw [sign_at, S_eq]
  cases (cs x)[e]? <;> simp
theorem run_step (c : Nat) (l : List Nat) (e : Nat) : run c l e = if l[e]? = some c then run c l (e + 1) else e := by
  unfold run
  rcases Nat.lt_or_ge e l.length with h | h
  · rw [List.drop_eq_getElem_cons h, List.getElem?_eq_getElem h]
    by_cases q : l[e] = c
    · rw [List.takeWhile_cons_of_pos (by simp [q]), if_pos (by simp [q])]; simp; omega
    · rw [List.takeWhile_cons_of_neg (by simp [q]), if_neg (by simp [q])]; simp
  · rw [List.getElem?_eq_none h, if_neg (by simp), List.drop_eq_nil_of_le h]; simp
theorem find3_x (x : Str) (c : Nat) {a : Nat} (ha : a ≤ (cs x).length) : Txt.find3 x (S [c]) (a : Int) = if fnd c (cs x) a < (cs x).length then (fnd c (cs x) a : Int) else -1 := by
  have := find3_S c (cs x) (i := (a : Int)) (by omega) (by omega)
  rw [S_of] at this
  rw [this]; simp

-- part fn
theorem reset_fn : True := by w_top off; trivial
/-! function objects that bear attributes of their own -/
theorem fn_look (n : Str) {r : Option Value} (h : fastLookup "function" n = some r) : typeLookup (.type "function") n = pure r := by rw [typeLookup_type, builtinLookup_eq_fast, h]
theorem fn_ga : typeLookup (.type "function") "__getattribute__" = pure (some (.builtin "object.__getattribute__")) := fn_look _ (by kernel_rfl)
theorem fn_gat : typeLookup (.type "function") "__getattr__" = pure none := fn_look _ (by kernel_rfl)
theorem fn_sat : typeLookup (.type "function") "__setattr__" = pure (some (.builtin "object.__setattr__")) := fn_look _ (by kernel_rfl)
theorem fn_span : typeLookup (.type "function") "span" = pure none := fn_look _ (by kernel_rfl)
theorem fn_search : typeLookup (.type "function") "search" = pure none := fn_look _ (by kernel_rfl)
theorem fn_slot_ga : Slot "function" "__getattribute__" "object.__getattribute__" :=
  .of (owner := "object") (n := "__getattribute__") (by rw [typeLookup_type, builtinLookup_eq_fast]; kernel_rfl) (by decide +kernel) (by decide +kernel) (by decide +kernel)
    (by first | exact .inl (by decide +kernel) | exact .inr (by decide +kernel)) (by rw [isSubtype_type]; kernel_rfl)
theorem fn_slot_sa : Slot "function" "__setattr__" "object.__setattr__" :=
  .of (owner := "object") (n := "__setattr__") (by rw [typeLookup_type, builtinLookup_eq_fast]; kernel_rfl) (by decide +kernel) (by decide +kernel) (by decide +kernel)
    (by first | exact .inl (by decide +kernel) | exact .inr (by decide +kernel)) (by rw [isSubtype_type]; kernel_rfl)
theorem fn_entry_ga : entryFor table "object.__getattribute__" = some Builtin.«object.__getattribute__» := entryFor_of_tree (by kernel_rfl)
theorem fn_args_ga (a b : Value) : argsOk "object.__getattribute__" ⟨[a, b], []⟩ := by unfold argsOk; kernel_rfl
theorem fn_mro : mroOf (.type "function") = pure [.type "function", .type "object"] := by kernel_rfl
theorem fn_sub : isSubtype (.type "function") (.type "object") = pure true := by rw [isSubtype_type]; kernel_rfl
theorem fn_refuse (self : Value) : refuseLoop self "__setattr__" [.type "function", .type "object"] = pure () := by kernel_rfl
section
variable {prog : Program} {w : World} {A : Around} {E : Value → Shared → Prop} {s : Shared} {q d : Addr} {fd : FuncData} {sl : Array (Option Value)}
theorem fn_type {M : Model} {h : Heap} {od : Option Addr} (hq : h.get? q = some ⟨.type "function", od, .func fd, sl⟩) : Looks M h (typeOf (.ref q)) (.type "function") := (Looks.ld hq).andThen .now
theorem fn_dict {M : Model} {h : Heap} {name : Str} {v : Option Value} {mm : Str → Option Value} (hq : h.get? q = some ⟨.type "function", some d, .func fd, sl⟩) (hd : h.Ns d mm) (hv : mm name = v) :
    Looks M h (Builtin.ObjectAttr.inOwnDict name (.ref q)) v := by
  unfold Builtin.ObjectAttr.inOwnDict Builtin.ObjectAttr.ownDict
  refine Looks.andThen (a := some d) ((Looks.ld hq).andThen ((Looks.ld hq).andThen .now)) ?_
  intro A Q E s k z
  exact wpAny_nsGet (hd.keeps k) (hv ▸ z)
theorem fn_find {M : Model} {h : Heap} {name : Str} {v : Value} {mm : Str → Option Value} (hq : h.get? q = some ⟨.type "function", some d, .func fd, sl⟩) (hd : h.Ns d mm) (hv : mm name = some v) (hl : typeLookup (.type "function") name = pure none) :
    Looks M h (Builtin.ObjectAttr.find (.ref q) (.type "function") name) (.value v) := by
  unfold Builtin.ObjectAttr.find
  refine (Looks.of_pure hl).andThen (Looks.andThen (a := none) .now (Looks.andThen (a := none) .now ?_))
  unfold Builtin.ObjectAttr.ownThenClass
  exact (fn_dict hq hd hv).andThen (Looks.tag .now)
theorem fn_getAttr {name : Str} {v : Value} {expr : Bool} {mm : Str → Option Value} {Q : Value → Shared → Prop} (hq : s.heap.get? q = some ⟨.type "function", some d, .func fd, sl⟩) (hd : s.heap.Ns d mm) (hv : mm name = some v) (hl : typeLookup (.type "function") name = pure none)
    (hh : handedIn v = true) (h : Q v { s with toks := s.toks + 1 }) : wpAny (model prog w) A (getAttr (.ref q) name expr) Q E s := by
  obtain ⟨hp, g, dr, t, os⟩ := s
  have L0 := fn_type (M := model prog w) hq
  have L1 : Looks (model prog w) hp (typeLookup (.type "function") "__getattribute__") (some (.builtin "object.__getattribute__")) := Looks.of_pure fn_ga
  have L2 := fn_find (M := model prog w) hq hd hv hl
  unfold getAttr getAttrBy
  refine wpAny_bind (wpAny_mkText (wpAny_holding (wpAny_bind (L0.at (wpAny_bind (L1.at ?_))))))
  show wpAny _ _ (getAttrByItsOwn (.ref q) (.str name t) (.type "function") (.builtin "object.__getattribute__") true expr) _ _ _
  unfold getAttrByItsOwn hookBefore callGetattribute boundAndCalled
  refine wpAny_bind (wpAny_of_eq (show (if onTheHeap (.type "function") then typeLookup (.type "function") "__getattr__" else pure none) = pure none from rfl) ?_)
  refine wpAny_bind (wpAny_attempt (wpAny_holding ?_))
  rw [if_neg (by cases expr <;> decide)]
  refine wpAny_bind (wpAny_of_eq (fn_slot_ga.bind _) ?_)
  refine wpAny_mono (Q := fun v' s' => v' = v ∧ s' = ⟨hp, g, dr, t + 1, os⟩) (E := fun _ _ => False)
    (wpAny_call_entry fn_slot_ga (⟨_, hq, rfl⟩ : (⟨hp, g, dr, t + 1, os⟩ : Shared).TypeIs (.ref q) "function") fn_entry_ga ?_ (fn_args_ga _ _)) (fun v' s' hv => ?_) fun _ _ z => z.elim
  · refine wpAny_bind (wpAny_pure (wpAny_bind (wpAny_pure (wpAny_bind (L0.at (wpAny_bind (L2.at ?_)))))))
    exact wpAny_pure ⟨_, rfl, rfl, rfl⟩
  · obtain ⟨rfl, rfl⟩ := hv
    show wpAny _ _ (handedOut v') _ _ _
    rw [handedOut_of hh]; exact wpAny_pure h
theorem fn_getMethod {name : Str} {v : Value} {pl : Sem Bool} {mm : Str → Option Value} {Q : Value × List Value → Shared → Prop} (hq : s.heap.get? q = some ⟨.type "function", some d, .func fd, sl⟩) (hd : s.heap.Ns d mm) (hv : mm name = some v) (hl : typeLookup (.type "function") name = pure none)
    (hh : handedIn v = true) (h : ∀ tk, Q (v, []) { s with toks := tk }) : wpAny (model prog w) A (getMethod (.ref q) name pl) Q E s := by
  have L0 := fn_type (M := model prog w) hq
  unfold getMethod
  refine wpAny_bind ((L0.andThen (Looks.of_pure fn_ga)).here ?_)
  dsimp only
  rw [if_neg (by decide +kernel)]
  refine wpAny_bind ((L0.andThen (Looks.of_pure fn_gat)).here ?_)
  rw [if_neg (by decide)]
  refine wpAny_bind ((L0.andThen (Looks.of_pure hl)).here ?_)
  exact wpAny_bind (fn_getAttr hq hd hv hl hh (wpAny_pure (h _)))
/-- the dict of one name -/
noncomputable abbrev oneD (P : Params) (name : Str) (t : Tok) (v : Value) : Obj := dictOf [⟨PyData.keyHash P name, .str name t, v⟩] 1
theorem oneD_ns {P : Params} {h : Heap} {name : Str} {t : Tok} {v : Value} (hd : h.get? d = some (oneD P name t v)) : h.Ns d (fun x => if x = name then some v else none) := by
  refine ⟨_, _, _, hd, rfl, ?_, ?_⟩
  · intro e he
    have : e = ⟨PyData.keyHash P name, .str name t, v⟩ := by simpa using he
    subst this
    exact ⟨_, _, rfl⟩
  · intro x
    unfold nsFind findBy
    simp only [List.find?_toArray, List.find?_cons, List.find?_nil]
    by_cases q : x = name
    · subst q; simp [Value.isStr]
    · have q' : (name == x) = false := by simpa using Ne.symm q
      simp [Value.isStr, q, q']
theorem fn_setAttr {name : Str} {v : Value} {Q : Unit → Shared → Prop} (hq : s.heap.get? q = some ⟨.type "function", none, .func fd, sl⟩) (hl : typeLookup (.type "function") name = pure none)
    (h : ∀ d t h' tk, s.heap.objs.size = d → (∀ b o, b ≠ q → s.heap.get? b = some o → h'.get? b = some o) → h'.get? q = some ⟨.type "function", some d, .func fd, sl⟩ → h'.get? d = some (oneD w.params name t v) → Q () { s with heap := h', toks := tk }) :
    wpAny (model prog w) A (setAttr (.ref q) name v) Q E s := by
  obtain ⟨hp, g, dr, t, os⟩ := s
  have hT : ∀ t', (⟨hp, g, dr, t', os⟩ : Shared).TypeIs (.ref q) "function" := fun _ => ⟨_, hq, rfl⟩
  have L0 := fn_type (M := model prog w) hq
  have L2 : Looks (model prog w) hp (typeLookup (.type "function") name) none := Looks.of_pure hl
  have hlt : q < hp.objs.size := Heap.lt_size hq
  unfold setAttr
  refine wpAny_bind (wpAny_mkText (wpAny_bind (wpAny_callSpecial?_slot (hT _) fn_slot_sa (wpAny_call_entry fn_slot_sa (hT _) F.entry_object_sa ?_ (F.store_object.args _ _ _)))))
  rw [osa_eq, refuse_eq]
  refine wpAny_bind (wpAny_bind (L0.at (wpAny_bind (wpAny_of_eq fn_mro ?_))))
  rw [fn_refuse]
  refine wpAny_pure (wpAny_bind (L0.at (wpAny_bind (L2.at (wpAny_bind (wpAny_pure ?_))))))
  have f1 : typeHasDict (.type "function") = true := by decide +kernel
  have f2 : finalisedInACycleAlone "function" = false := by decide +kernel
  unfold Builtin.ObjectAttr.storeInOwnDict
  refine wpAny_bind (wpAny_pure ?_)
  rw [if_neg (by decide)]
  refine wpAny_bind (m := Builtin.ObjectAttr.ownDictForStores (.ref q)) ?_
  show wpAny _ _ (instanceDict q true) _ _ _
  unfold instanceDict
  refine wpAny_bind (wpAny_loadPart hq ?_)
  dsimp only
  rw [f1]
  refine wpAny_bind (wpAny_alloc' ?_)
  have hq1 : (hp.push { cls := .type "dict", data := .dict #[] }).get? q = some ⟨.type "function", none, .func fd, sl⟩ := Heap.get?_push_of_some _ hq
  have hne : hp.objs.size ≠ q := Nat.ne_of_gt hlt
  refine wpAny_bind (wpAny_update' hq1 ?_)
  unfold dictMade
  dsimp only
  rw [f2]
  simp only [Bool.false_eq_true, if_false]
  refine wpAny_pure ?_
  dsimp only
  unfold Builtin.ObjectAttr.storeInDict Builtin.ObjectAttr.newKeyGuard
  refine wpAny_bind (wpAny_pure (wpAny_bind ?_))
  generalize hh2 : (hp.push { cls := .type "dict", data := .dict #[] }).update q (fun o => { cls := o.cls, dict := some hp.objs.size, data := o.data, slots := o.slots }) = h2
  have D : h2.get? hp.objs.size = some { cls := .type "dict", data := .dict #[] } := by
    rw [← hh2, Heap.get?_update_ne _ _ _ _ hne]; exact Heap.get?_push_size _ rfl
  have Q2 : h2.get? q = some ⟨.type "function", some hp.objs.size, .func fd, sl⟩ := by
    rw [← hh2]; exact Heap.get?_update_self _ hq1 rfl
  have K2 : ∀ b o, b ≠ q → hp.get? b = some o → h2.get? b = some o := fun b o hb e => by
    rw [← hh2, Heap.get?_update_ne _ _ _ _ hb]; exact Heap.get?_push_of_some _ e
  clear hh2
  unfold nsSet
  refine wpAny_bind (wpAny_bind (wpAny_askSetting (wpAny_pure (wpAny_bind (wpAny_mkText (wpAny_bind (wpAny_loadPart D ?_)))))))
  dsimp only
  rw [aRefKeyMayBeTheName_at]
  rw [if_neg (by simp)]
  have hput : Obj.putName name (PyData.keyHash w.params name) (.str name (t + 1)) v { cls := .type "dict", data := .dict #[] } = oneD w.params name (t + 1) v := by
    have := putName_dict name (PyData.keyHash w.params name) (.str name (t + 1)) v [] 0
    exact this
  refine wpAny_updatePart D ?_
  have D3 := Heap.get?_update_self (Obj.putName name (PyData.keyHash w.params name) (.str name (t + 1)) v) D (by rw [hput]; rfl)
  rw [hput] at D3
  refine wpAny_bind (wpAny_lookBehind D3 (pastItsLine_dict (by simp [sizeLine_eq])) ?_)
  refine wpAny_pure ⟨_, rfl, wpAny_pure ?_⟩
  refine h _ (t + 1) _ _ rfl (fun b o hb e => ?_) ?_ D3
  · rw [Heap.get?_update_ne _ _ _ _ (fun z => ?_)]
    · exact K2 b o hb e
    · have := Heap.lt_size e; rw [z] at this; exact Nat.lt_irrefl _ this
  · rw [Heap.get?_update_ne _ _ _ _ hne.symm]; exact Q2
end

-- part c1
theorem reset_c1 : True := by w_top off; trivial
/-- dirname, as the walk tells it -/
noncomputable def dirS (x : Str) : Str :=
  if ((Txt.slice x none (some (Txt.rfind x (Str.ofString "/") + 1))).length : Int) ≠ 0 ∧ (Txt.slice x none (some (Txt.rfind x (Str.ofString "/") + 1)) != Txt.mul (Str.ofString "/") ((Txt.slice x none (some (Txt.rfind x (Str.ofString "/") + 1))).length : Nat)) = true
  then Txt.rstripChars (Txt.slice x none (some (Txt.rfind x (Str.ofString "/") + 1))) (Str.ofString "/") else Txt.slice x none (some (Txt.rfind x (Str.ofString "/") + 1))
section
variable {w : World} {dp un : Nat} {fr : Option (List Env)} {gd : Option (List Code)} {s : Shared} {Q E : Value → Shared → Prop} {loose : List Str} {mean : ExcName → Option Value} {mg mb : Str → Option Value} {h₀ : Heap} {L : Addr} {m : Str → Option Value} {news : List (Addr × Obj)}
  (F : Fr h₀ L s.heap m) (N : News h₀ L s.heap news) (X : (hd.heap_1 w.params).In h₀) (T : Top topProg loose mean mg mb h₀) {x : Str} {t : Tok}
include F N X T
set_option maxHeartbeats 8000000 in
theorem get_sep_ok (hdp : dp + 1 < recursionLimit) (ret : RetS h₀ L m news s Q (Str.ofString "/")) : wpAny (model PR w) (Ar dp fr gd un) (call (.ref 129) [.str x t]) Q E s := by
  ((k_dflt (refine' enterC (by assumption) (by assumption) (by assumption) (by assumption) ?k6 ?k7 ?k8 ?k9 ?kB ?_ ?c2 ?c3 ?c4 ?c5; (case k6 => k_is); (case k7 => k_is); (case k8 => (dsimp only; omega)); (case k9 => exact BindsTo.of_eq rfl); (case c5 => decide); (case kB => exact locs rfl); (case c2 => exact rfl); (case c3 => exact rfl); (case c4 => exact rfl); k_whole; intros; (try dsimp only); (try k_fold))))
  clear F N X T
  (repeat' (first | (k_unfold; (try dsimp only)) | ((((fail_if_success (with_reducible show wpAny _ _ (exec (Stmt.While _ _ _ _) _) _ _ _)); (fail_if_success (with_reducible show wpAny _ _ (exec (Stmt.For _ _ _ _ _) _) _ _ _)))); (first | walk1 | (dsimp only; walk1)))))
  exact ret _ _ _ (Back.fr (by assumption) (by assumption)) (Back.news (by assumption) (by assumption))
set_option maxHeartbeats 8000000 in
theorem fspath_ok (hdp : dp + 1 < recursionLimit) (ret : RetS h₀ L m news s Q x) : wpAny (model PR w) (Ar dp fr gd un) (call (.ref 108) [.str x t]) Q E s := by
  ((k_dflt (refine' enterC (by assumption) (by assumption) (by assumption) (by assumption) ?k6 ?k7 ?k8 ?k9 ?kB ?_ ?c2 ?c3 ?c4 ?c5; (case k6 => k_is); (case k7 => k_is); (case k8 => (dsimp only; omega)); (case k9 => exact BindsTo.of_eq rfl); (case c5 => decide); (case kB => exact locs rfl); (case c2 => exact rfl); (case c3 => exact rfl); (case c4 => exact rfl); k_whole; intros; (try dsimp only); (try k_fold))))
  clear F N X T
  (repeat' (first | (k_unfold; (try dsimp only)) | ((((fail_if_success (with_reducible show wpAny _ _ (exec (Stmt.While _ _ _ _) _) _ _ _)); (fail_if_success (with_reducible show wpAny _ _ (exec (Stmt.For _ _ _ _ _) _) _ _ _)))); (first | walk1 | (dsimp only; walk1)))))
  exact ret _ _ _ (Back.fr (by assumption) (by assumption)) (Back.news (by assumption) (by assumption))
end
--MACRO
local macro_rules | `(tactic| walk_at "m contract") => `(tactic| ((first | refine' get_sep_ok ?F ?N ?X ?T ?d ?_ | refine' fspath_ok ?F ?N ?X ?T ?d ?_); walk_at "m c"; intro _ _ _ _ _))
local macro_rules | `(tactic| walk_at "m c") => `(tactic| ((case F => k_asm); (case N => k_asm); (case X => k_asm); (case T => k_asm); (try (case x => first | with_reducible assumption | size_fits)); (try (case g => walk_at "m g")); (case d => (first | omega | (dsimp only [Around.deeper, Around.in1, Around.mark]; omega))); k_whole))
local macro_rules | `(tactic| walk_at "call ref") => `(tactic| (k_here; k_dflt (walk_at "m contract"; (try (rename News _ _ _ _ ∧ _ => N'; replace N' := And.left N')); (try k_sweep))))
--END
section
variable {w : World} {dp un : Nat} {fr : Option (List Env)} {gd : Option (List Code)} {s : Shared} {Q E : Value → Shared → Prop} {loose : List Str} {mean : ExcName → Option Value} {mg mb : Str → Option Value} {h₀ : Heap} {L : Addr} {m : Str → Option Value} {news : List (Addr × Obj)}
  (F : Fr h₀ L s.heap m) (N : News h₀ L s.heap news) (X : (hd.heap_1 w.params).In h₀) (T : Top topProg loose mean mg mb h₀) {x : Str} {t : Tok} (hx : x.length ≤ 64)
include F N X T hx
set_option maxHeartbeats 8000000 in
theorem basename_ok (hdp : dp + 2 < recursionLimit) (ret : RetS h₀ L m news s Q (Txt.slice x (some (Txt.rfind x (Str.ofString "/") + 1)) none)) : wpAny (model PR w) (Ar dp fr gd un) (call (.ref 167) [.str x t]) Q E s := by
  ((k_dflt (refine' enterC (by assumption) (by assumption) (by assumption) (by assumption) ?k6 ?k7 ?k8 ?k9 ?kB ?_ ?c2 ?c3 ?c4 ?c5; (case k6 => k_is); (case k7 => k_is); (case k8 => (dsimp only; omega)); (case k9 => exact BindsTo.of_eq rfl); (case c5 => decide); (case kB => exact locs rfl); (case c2 => exact rfl); (case c3 => exact rfl); (case c4 => exact rfl); k_whole; intros; (try dsimp only); (try k_fold))))
  clear F N X T
  (repeat' (first | (k_unfold; (try dsimp only)) | ((((fail_if_success (with_reducible show wpAny _ _ (exec (Stmt.While _ _ _ _) _) _ _ _)); (fail_if_success (with_reducible show wpAny _ _ (exec (Stmt.For _ _ _ _ _) _) _ _ _)))); (first | walk1 | (dsimp only; walk1)))))
  exact ret _ _ _ (Back.fr (by assumption) (by assumption)) (Back.news (by assumption) (by assumption))
set_option maxHeartbeats 8000000 in
theorem isabs_ok (hdp : dp + 2 < recursionLimit) (ret : RetB h₀ L m news s Q (Txt.startswith x (Str.ofString "/"))) : wpAny (model PR w) (Ar dp fr gd un) (call (.ref 136) [.str x t]) Q E s := by
  ((k_dflt (refine' enterC (by assumption) (by assumption) (by assumption) (by assumption) ?k6 ?k7 ?k8 ?k9 ?kB ?_ ?c2 ?c3 ?c4 ?c5; (case k6 => k_is); (case k7 => k_is); (case k8 => (dsimp only; omega)); (case k9 => exact BindsTo.of_eq rfl); (case c5 => decide); (case kB => exact locs rfl); (case c2 => exact rfl); (case c3 => exact rfl); (case c4 => exact rfl); k_whole; intros; (try dsimp only); (try k_fold))))
  clear F N X T
  (repeat' (first | (k_unfold; (try dsimp only)) | ((((fail_if_success (with_reducible show wpAny _ _ (exec (Stmt.While _ _ _ _) _) _ _ _)); (fail_if_success (with_reducible show wpAny _ _ (exec (Stmt.For _ _ _ _ _) _) _ _ _)))); (first | walk1 | (dsimp only; walk1)))))
  exact ret _ _ (Back.fr (by assumption) (by assumption)) (Back.news (by assumption) (by assumption))
set_option maxHeartbeats 8000000 in
theorem dirname_ok (hdp : dp + 2 < recursionLimit) (ret : RetS h₀ L m news s Q (dirS x)) : wpAny (model PR w) (Ar dp fr gd un) (call (.ref 174) [.str x t]) Q E s := by
  ((k_dflt (refine' enterC (by assumption) (by assumption) (by assumption) (by assumption) ?k6 ?k7 ?k8 ?k9 ?kB ?_ ?c2 ?c3 ?c4 ?c5; (case k6 => k_is); (case k7 => k_is); (case k8 => (dsimp only; omega)); (case k9 => exact BindsTo.of_eq rfl); (case c5 => decide); (case kB => exact locs rfl); (case c2 => exact rfl); (case c3 => exact rfl); (case c4 => exact rfl); k_whole; intros; (try dsimp only); (try k_fold))))
  clear F N X T
  (repeat' (first | (k_unfold; (try dsimp only)) | ((((fail_if_success (with_reducible show wpAny _ _ (exec (Stmt.While _ _ _ _) _) _ _ _)); (fail_if_success (with_reducible show wpAny _ _ (exec (Stmt.For _ _ _ _ _) _) _ _ _)))); (first | walk1 | (dsimp only; walk1)))))
  all_goals (refine ret.eq ?_ _ _ _ (Back.fr (by assumption) (by assumption)) (Back.news (by assumption) (by assumption)))
  all_goals (unfold dirS; first
    | exact (if_pos ⟨by assumption, by assumption⟩).symm
    | exact (if_neg fun c => absurd c.2 (ne_true_of_eq_false (by assumption))).symm
    | exact (if_neg fun c => c.1 (by assumption)).symm
    | skip)
  all_goals trace_state
end

-- part c2
theorem reset_c2 : True := by w_top off; trivial

noncomputable def rootS (x : Str) : Str :=
  if (Txt.slice x none (some 1) != Str.ofString "/") = true then Str.ofString "" else
  if (Txt.slice x (some 1) (some 2) != Str.ofString "/") = true then Str.ofString "/" else
  if (Txt.slice x (some 2) (some 3) == Str.ofString "/") = true then Str.ofString "/" else Txt.slice x none (some 2)
noncomputable def restS (x : Str) : Str :=
  if (Txt.slice x none (some 1) != Str.ofString "/") = true then x else
  if (Txt.slice x (some 1) (some 2) != Str.ofString "/") = true then Txt.slice x (some 1) none else
  if (Txt.slice x (some 2) (some 3) == Str.ofString "/") = true then Txt.slice x (some 1) none else Txt.slice x (some 2) none
section
variable {w : World} {dp un : Nat} {fr : Option (List Env)} {gd : Option (List Code)} {s : Shared} {Q E : Value → Shared → Prop} {loose : List Str} {mean : ExcName → Option Value} {mg mb : Str → Option Value} {h₀ : Heap} {L : Addr} {m : Str → Option Value} {news : List (Addr × Obj)}
  (F : Fr h₀ L s.heap m) (N : News h₀ L s.heap news) (X : (hd.heap_1 w.params).In h₀) (T : Top topProg loose mean mg mb h₀) {x : Str} {t : Tok} (hx : x.length ≤ 64)
include F N X T hx
set_option maxHeartbeats 8000000 in
theorem split_ok (hdp : dp + 2 < recursionLimit) (ret : RetSS h₀ L m news s Q (dirS x) (Txt.slice x (some (Txt.rfind x (Str.ofString "/") + 1)) none)) : wpAny (model PR w) (Ar dp fr gd un) (call (.ref 143) [.str x t]) Q E s := by
  ((k_dflt (refine' enterC (by assumption) (by assumption) (by assumption) (by assumption) ?k6 ?k7 ?k8 ?k9 ?kB ?_ ?c2 ?c3 ?c4 ?c5; (case k6 => k_is); (case k7 => k_is); (case k8 => (dsimp only; omega)); (case k9 => exact BindsTo.of_eq rfl); (case c5 => decide); (case kB => exact locs rfl); (case c2 => exact rfl); (case c3 => exact rfl); (case c4 => exact rfl); k_whole; intros; (try dsimp only); (try k_fold))))
  clear F N X T
  (repeat' (first | (k_unfold; (try dsimp only)) | ((((fail_if_success (with_reducible show wpAny _ _ (exec (Stmt.While _ _ _ _) _) _ _ _)); (fail_if_success (with_reducible show wpAny _ _ (exec (Stmt.For _ _ _ _ _) _) _ _ _)))); (first | walk1 | (dsimp only; walk1)))))
  all_goals (refine ret.eq ?_ rfl _ _ _ _ _ (Back.fr (by assumption) (by assumption)) (Back.cons (by assumption) (by assumption) (by assumption) (by k_mem)))
  all_goals (unfold dirS; first
    | exact (if_pos ⟨by assumption, by assumption⟩).symm
    | exact (if_neg fun c => absurd c.2 (ne_true_of_eq_false (by assumption))).symm
    | exact (if_neg fun c => c.1 (by assumption)).symm
    | skip)
set_option maxHeartbeats 8000000 in
theorem splitroot_ok (hdp : dp + 2 < recursionLimit) (ret : RetSSS h₀ L m news s Q (Str.ofString "") (rootS x) (restS x)) : wpAny (model PR w) (Ar dp fr gd un) (call (.ref 160) [.str x t]) Q E s := by
  ((k_dflt (refine' enterC (by assumption) (by assumption) (by assumption) (by assumption) ?k6 ?k7 ?k8 ?k9 ?kB ?_ ?c2 ?c3 ?c4 ?c5; (case k6 => k_is); (case k7 => k_is); (case k8 => (dsimp only; omega)); (case k9 => exact BindsTo.of_eq rfl); (case c5 => decide); (case kB => exact locs rfl); (case c2 => exact rfl); (case c3 => exact rfl); (case c4 => exact rfl); k_whole; intros; (try dsimp only); (try k_fold))))
  clear F N X T
  (repeat' (first | (k_unfold; (try dsimp only)) | ((((fail_if_success (with_reducible show wpAny _ _ (exec (Stmt.While _ _ _ _) _) _ _ _)); (fail_if_success (with_reducible show wpAny _ _ (exec (Stmt.For _ _ _ _ _) _) _ _ _)))); (first | walk1 | (dsimp only; walk1)))))
  all_goals (refine ret.eq rfl ?_ ?_ _ _ _ _ _ _ (Back.fr (by assumption) (by assumption)) (Back.cons (by assumption) (by assumption) (by assumption) (by k_mem)))
  all_goals first
    | (unfold rootS; simp only [*, if_true, if_false, Bool.false_eq_true]; done)
    | (unfold restS; simp only [*, if_true, if_false, Bool.false_eq_true]; done)
    | skip
end
--MACRO
local macro_rules | `(tactic| walk_at "m contract") => `(tactic| ((first | refine' splitroot_ok ?F ?N ?X ?T ?x ?d ?_); walk_at "m c"; intro _ _ _ _ _ _ _ _))
--END

-- part c3
theorem reset_c3 : True := by w_top off; trivial
/-- what splitext hands back -/
noncomputable def ExtRel (x c e : Str) : Prop :=
  (Txt.rfind x (Str.ofString "/") < Txt.rfind x (Str.ofString ".") ∧ (∃ k : Int, Txt.rfind x (Str.ofString "/") + 1 ≤ k ∧ k < Txt.rfind x (Str.ofString ".") ∧ Txt.slice x (some k) (some (k + 1)) ≠ Str.ofString ".") ∧
    c = Txt.slice x none (some (Txt.rfind x (Str.ofString "."))) ∧ e = Txt.slice x (some (Txt.rfind x (Str.ofString "."))) none) ∨
  ((∀ k : Int, Txt.rfind x (Str.ofString "/") + 1 ≤ k → k < Txt.rfind x (Str.ofString ".") → Txt.slice x (some k) (some (k + 1)) = Str.ofString ".") ∧ c = x ∧ e = Txt.slice x none (some 0))
section
variable {w : World} {dp un : Nat} {fr : Option (List Env)} {gd : Option (List Code)} {s : Shared} {Q E : Value → Shared → Prop} {loose : List Str} {mean : ExcName → Option Value} {mg mb : Str → Option Value} {h₀ : Heap} {L : Addr} {m : Str → Option Value} {news : List (Addr × Obj)}
  (F : Fr h₀ L s.heap m) (N : News h₀ L s.heap news) (X : (hd.heap_1 w.params).In h₀) (T : Top topProg loose mean mg mb h₀) {x : Str} {t t1 t2 : Tok} (hx : x.length ≤ 64)
include F N X T hx
set_option maxHeartbeats 8000000 in
theorem splitext0_ok (hdp : dp + 2 < recursionLimit) (ret : ∀ c e, ExtRel x c e → RetSS h₀ L m news s Q c e) : wpAny (model PR w) (Ar dp fr gd un) (call (.ref 115) [.str x t, .str (Str.ofString "/") t1, .none, .str (Str.ofString ".") t2]) Q E s := by
  ((k_dflt (refine' enterC (by assumption) (by assumption) (by assumption) (by assumption) ?k6 ?k7 ?k8 ?k9 ?kB ?_ ?c2 ?c3 ?c4 ?c5; (case k6 => k_is); (case k7 => k_is); (case k8 => (dsimp only; omega)); (case k9 => exact BindsTo.of_eq rfl); (case c5 => decide); (case kB => exact locs rfl); (case c2 => exact rfl); (case c3 => exact rfl); (case c4 => exact rfl); k_whole; intros; (try dsimp only); (try k_fold))))
  clear F N X T
  (repeat' (first | (k_unfold; (try dsimp only)) | ((((fail_if_success (with_reducible show wpAny _ _ (exec (Stmt.While _ _ _ _) _) _ _ _)); (fail_if_success (with_reducible show wpAny _ _ (exec (Stmt.For _ _ _ _ _) _) _ _ _)))); (first | walk1 | (dsimp only; walk1)))))
  rotate_left
  · refine ret _ _ (.inr ⟨fun k h1 h2 => ?_, rfl, rfl⟩) _ _ _ _ _ (Back.fr (by assumption) (by assumption)) (Back.cons (by assumption) (by assumption) (by assumption) (by k_mem))
    exact absurd (show Txt.rfind x (Str.ofString "/") < Txt.rfind x (Str.ofString ".") by omega) (by assumption)
  rename Fr _ _ _ _ => F₁
  rename News _ _ _ _ => N₁
  rename _ < _ => hlt
  refine While_inv2 (fun n m₁ news₁ => news₁ = [] ∧ ∃ (fi : Int) (ti tp te td : Tok), m₁ (Str.ofString "p") = some (.str x tp) ∧ m₁ (Str.ofString "extsep") = some (.str (Str.ofString ".") te) ∧ m₁ (Str.ofString "dotIndex") = some (.int (Txt.rfind x (Str.ofString ".")) td) ∧ m₁ (Str.ofString "filenameIndex") = some (.int fi ti) ∧
      n = (Txt.rfind x (Str.ofString ".") - fi).toNat ∧ Txt.rfind x (Str.ofString "/") + 1 ≤ fi ∧ fi ≤ Txt.rfind x (Str.ofString ".") ∧ ∀ k : Int, Txt.rfind x (Str.ofString "/") + 1 ≤ k → k < fi → Txt.slice x (some k) (some (k + 1)) = Str.ofString ".")
    F₁ N₁ ⟨rfl, _, _, _, _, _, rfl, rfl, rfl, rfl, rfl, by omega, by omega, fun k h1 h2 => by omega⟩ ?_
  clear F₁ N₁
  rintro n m₁ news₁ h₁ tk₁ F₁ N₁ ⟨rfl, fi, ti, tp, te, td, e1, e2, e3, e4, rfl, b1, b2, b3⟩
  have F₂ := nam4 F₁ e1 e2 e3 e4
  clear F₁ e1 e2 e3 e4
  (repeat' (first | (k_unfold; (try dsimp only)) | ((((fail_if_success (with_reducible show wpAny _ _ (exec (Stmt.While _ _ _ _) _) _ _ _)); (fail_if_success (with_reducible show wpAny _ _ (exec (Stmt.For _ _ _ _ _) _) _ _ _)))); (first | walk1 | (dsimp only; walk1)))))
  · refine ret _ _ (.inl ⟨hlt, ⟨fi, b1, by assumption, bne_iff_ne.mp (by assumption)⟩, rfl, rfl⟩) _ _ _ _ _ (Back.fr (by assumption) (by assumption)) (Back.cons (by assumption) (by assumption) (by assumption) (by k_mem))
  · refine ⟨_, _, _, _, _, rfl, by assumption, by assumption, ?_, rfl, fi + 1, _, _, _, _, rfl, rfl, rfl, rfl, rfl, by omega, by omega, fun k h1 h2 => ?_⟩
    · omega
    · by_cases q : k = fi
      · rw [q]; exact bne_eq_false_iff_eq.mp (by assumption)
      · exact b3 k h1 (by omega)
  · refine ret _ _ (.inr ⟨fun k h1 h2 => b3 k h1 (by omega), rfl, rfl⟩) _ _ _ _ _ (Back.fr (by assumption) (by assumption)) (Back.cons (by assumption) (by assumption) (by assumption) (by k_mem))
--MACRO
local macro_rules | `(tactic| walk_at "m contract") => `(tactic| ((first | refine' splitext0_ok ?F ?N ?X ?T ?x ?d ?_); walk_at "m c"; intro _ _ _ _ _ _ _ _ _ _))
--END
set_option maxHeartbeats 8000000 in
theorem splitext_ok (hdp : dp + 3 < recursionLimit) (ret : ∀ c e, ExtRel x c e → RetSS h₀ L m news s Q c e) : wpAny (model PR w) (Ar dp fr gd un) (call (.ref 150) [.str x t]) Q E s := by
  ((k_dflt (refine' enterC (by assumption) (by assumption) (by assumption) (by assumption) ?k6 ?k7 ?k8 ?k9 ?kB ?_ ?c2 ?c3 ?c4 ?c5; (case k6 => k_is); (case k7 => k_is); (case k8 => (dsimp only; omega)); (case k9 => exact BindsTo.of_eq rfl); (case c5 => decide); (case kB => exact locs rfl); (case c2 => exact rfl); (case c3 => exact rfl); (case c4 => exact rfl); k_whole; intros; (try dsimp only); (try k_fold))))
  clear F N X T
  (repeat' (first | (k_unfold; (try dsimp only)) | ((((fail_if_success (with_reducible show wpAny _ _ (exec (Stmt.While _ _ _ _) _) _ _ _)); (fail_if_success (with_reducible show wpAny _ _ (exec (Stmt.For _ _ _ _ _) _) _ _ _)))); (first | walk1 | (dsimp only; walk1)))))
  rename News _ _ _ _ => N'
  exact ret _ _ (by assumption) _ _ _ _ _ (Back.fr (by assumption) (by assumption)) (Back.cons (by assumption) (by assumption) N' (.head _))
end

-- part c4
theorem reset_c4 : True := by w_top off; trivial
section
variable {w : World} {dp un : Nat} {fr : Option (List Env)} {gd : Option (List Code)} {s : Shared} {Q E : Value → Shared → Prop} {loose : List Str} {mean : ExcName → Option Value} {mg mb : Str → Option Value} {h₀ : Heap} {L : Addr} {m : Str → Option Value} {news : List (Addr × Obj)}
  (F : Fr h₀ L s.heap m) (N : News h₀ L s.heap news) (X : (hd.heap_1 w.params).In h₀) (T : Top topProg loose mean mg mb h₀) {x sg : Str} {t t1 t2 : Tok} (hx : x.length ≤ 64)
include F N X T hx
set_option maxHeartbeats 8000000 in
theorem run_ok {a c : Nat} (hsg : sg = S [c]) (hdp : dp + 1 < recursionLimit) (ret : RetI h₀ L m news s Q (run c (cs x) a : Nat)) : wpAny (model PR w) (Ar dp fr gd un) (call (.ref 198) [.str x t, .int (a : Nat) t1, .str sg t2]) Q E s := by
  have hsl : sg.length ≤ 64 := by rw [hsg, S_len]; simp
  ((k_dflt (refine' enterC (by assumption) (by assumption) (by assumption) (by assumption) ?k6 ?k7 ?k8 ?k9 ?kB ?_ ?c2 ?c3 ?c4 ?c5; (case k6 => k_is); (case k7 => k_is); (case k8 => (dsimp only; omega)); (case k9 => exact BindsTo.of_eq rfl); (case c5 => decide); (case kB => exact locs rfl); (case c2 => exact rfl); (case c3 => exact rfl); (case c4 => exact rfl); k_whole; intros; (try dsimp only); (try k_fold))))
  clear F N X T
  (repeat' (first | (k_unfold; (try dsimp only)) | ((((fail_if_success (with_reducible show wpAny _ _ (exec (Stmt.While _ _ _ _) _) _ _ _)); (fail_if_success (with_reducible show wpAny _ _ (exec (Stmt.For _ _ _ _ _) _) _ _ _)))); (first | walk1 | (dsimp only; walk1)))))
  rename Fr _ _ _ _ => F₁
  rename News _ _ _ _ => N₁
  refine While_inv2 (fun n m₁ news₁ => news₁ = [] ∧ ∃ (e : Nat) (te tc ts : Tok), m₁ (Str.ofString "chars") = some (.str x tc) ∧ m₁ (Str.ofString "sign") = some (.str sg ts) ∧ m₁ (Str.ofString "end") = some (.int (e : Nat) te) ∧ n = (cs x).length - e ∧ run c (cs x) e = run c (cs x) a)
    F₁ N₁ ⟨rfl, a, _, _, _, rfl, rfl, rfl, rfl, rfl⟩ ?_
  clear F₁ N₁
  rintro n m₁ news₁ h₁ tk₁ F₁ N₁ ⟨rfl, e, te, tc, ts, e1, e2, e3, rfl, b1⟩
  have F₂ := nam3 F₁ e1 e2 e3
  clear F₁ e1 e2 e3
  (repeat' (first | (k_unfold; (try dsimp only)) | ((((fail_if_success (with_reducible show wpAny _ _ (exec (Stmt.While _ _ _ _) _) _ _ _)); (fail_if_success (with_reducible show wpAny _ _ (exec (Stmt.For _ _ _ _ _) _) _ _ _)))); (first | walk1 | (dsimp only; walk1)))))
  · rename (_ == _) = true => q
    have q' := (sign_is x e c).mp (by rw [← hsg]; exact beq_iff_eq.mp q)
    refine ⟨_, _, _, _, _, rfl, by assumption, by assumption, ?_, rfl, e + 1, _, _, _, rfl, rfl, by rfl, rfl, ?_⟩
    · have : e < (cs x).length := by
        rcases Nat.lt_or_ge e (cs x).length with z | z
        · exact z
        · rw [List.getElem?_eq_none z] at q'; cases q'
      omega
    · rw [← b1, run_step c (cs x) e, if_pos q']
  · rename (_ == _) = false => q
    refine ret.eq ?_ _ _ _ (Back.fr (by assumption) (by assumption)) (Back.news (by assumption) (by assumption))
    rw [← b1, run_step, if_neg (fun z => ?_)]
    have := (sign_is x e c).mpr z
    rw [← hsg] at this
    rw [this] at q; simp at q
end
--MACRO
local macro_rules | `(tactic| walk_at "m g") => `(tactic| first | exact lit_slash | exact lit_dot | assumption | omega)
local macro_rules | `(tactic| walk_at "m contract") => `(tactic| ((first | refine' run_ok ?F ?N ?X ?T ?x ?g ?d ?_); walk_at "m c"; intro _ _ _ _ _))
--END
section
variable {w : World} {dp un : Nat} {fr : Option (List Env)} {gd : Option (List Code)} {s : Shared} {Q E : Value → Shared → Prop} {loose : List Str} {mean : ExcName → Option Value} {mg mb : Str → Option Value} {h₀ : Heap} {L : Addr} {m : Str → Option Value} {news : List (Addr × Obj)}
  (F : Fr h₀ L s.heap m) (N : News h₀ L s.heap news) (X : (hd.heap_1 w.params).In h₀) (T : Top topProg loose mean mg mb h₀) {x sg : Str} {t t1 t2 : Tok} (hx : x.length ≤ 64)
include F N X T hx
set_option maxHeartbeats 8000000 in
theorem name_first_ok {a : Nat} (hdp : dp + 2 < recursionLimit) (ret : RetI h₀ L m news s Q (if run 47 (cs x) a < (cs x).length then (run 47 (cs x) a : Int) else -1)) : wpAny (model PR w) (Ar dp fr gd un) (call (.ref 205) [.str x t, .int (a : Nat) t1]) Q E s := by
  ((k_dflt (refine' enterC (by assumption) (by assumption) (by assumption) (by assumption) ?k6 ?k7 ?k8 ?k9 ?kB ?_ ?c2 ?c3 ?c4 ?c5; (case k6 => k_is); (case k7 => k_is); (case k8 => (dsimp only; omega)); (case k9 => exact BindsTo.of_eq rfl); (case c5 => decide); (case kB => exact locs rfl); (case c2 => exact rfl); (case c3 => exact rfl); (case c4 => exact rfl); k_whole; intros; (try dsimp only); (try k_fold))))
  clear F N X T
  (repeat' (first | (k_unfold; (try dsimp only)) | ((((fail_if_success (with_reducible show wpAny _ _ (exec (Stmt.While _ _ _ _) _) _ _ _)); (fail_if_success (with_reducible show wpAny _ _ (exec (Stmt.For _ _ _ _ _) _) _ _ _)))); (first | walk1 | (dsimp only; walk1)))))
  · refine ret.eq ?_ _ _ _ (Back.fr (by assumption) (by assumption)) (Back.news (by assumption) (by assumption))
    rw [if_pos (by rename (_ : Int) < _ => q; rw [cs_len]; omega)]
  · refine ret.eq ?_ _ _ _ (Back.fr (by assumption) (by assumption)) (Back.news (by assumption) (by assumption))
    rw [if_neg (by rename ¬ (_ : Int) < _ => q; rw [cs_len]; omega)]
set_option maxHeartbeats 8000000 in
theorem name_behind_ok {a : Nat} (ha : a ≤ (cs x).length) (hdp : dp + 1 < recursionLimit) (ret : RetI h₀ L m news s Q (fnd 47 (cs x) a : Nat)) : wpAny (model PR w) (Ar dp fr gd un) (call (.ref 212) [.str x t, .int (a : Nat) t1]) Q E s := by
  ((k_dflt (refine' enterC (by assumption) (by assumption) (by assumption) (by assumption) ?k6 ?k7 ?k8 ?k9 ?kB ?_ ?c2 ?c3 ?c4 ?c5; (case k6 => k_is); (case k7 => k_is); (case k8 => (dsimp only; omega)); (case k9 => exact BindsTo.of_eq rfl); (case c5 => decide); (case kB => exact locs rfl); (case c2 => exact rfl); (case c3 => exact rfl); (case c4 => exact rfl); k_whole; intros; (try dsimp only); (try k_fold))))
  clear F N X T
  (repeat' (first | (k_unfold; (try dsimp only)) | ((((fail_if_success (with_reducible show wpAny _ _ (exec (Stmt.While _ _ _ _) _) _ _ _)); (fail_if_success (with_reducible show wpAny _ _ (exec (Stmt.For _ _ _ _ _) _) _ _ _)))); (first | walk1 | (dsimp only; walk1)))))
  · refine ret.eq ?_ _ _ _ (Back.fr (by assumption) (by assumption)) (Back.news (by assumption) (by assumption))
    rename 0 ≤ _ => q
    rw [lit_slash, find3_x x 47 ha] at q ⊢
    split at q
    · rw [if_pos (by assumption)]
    · omega
  · refine ret.eq ?_ _ _ _ (Back.fr (by assumption) (by assumption)) (Back.news (by assumption) (by assumption))
    rename ¬ (0 ≤ _) => q
    rw [lit_slash, find3_x x 47 ha] at q
    have := fnd_spec 47 (cs x) a ha
    have := cs_len x
    split at q <;> omega
end

--MACRO
local macro_rules | `(tactic| walk_at "m contract") => `(tactic| ((first | refine' name_first_ok ?F ?N ?X ?T ?x ?d ?_ | refine' name_behind_ok ?F ?N ?X ?T ?x ?g ?d ?_); walk_at "m c"; intro _ _ _ _ _))
--END

-- part tab
theorem reset_tab : True := by w_top off; trivial
/-! the table of code objects that the law's own nested defs fill (214), carried along in the ledger -/
noncomputable def okO (o : Obj) : Bool := match o.data with | .fields _ => false | _ => true
noncomputable abbrev qLam : Str := Str.ofString "_law_hit.<locals>.<lambda>"
noncomputable def HasCodeQ (P : Addr) (q : Str) (T : List (Addr × Obj)) (c : Addr) : Prop := c ≠ P ∧ ∃ oc vs t, (c, oc) ∈ T ∧ oc.data = .fields vs ∧ vs[1]? = some (.str q t)
structure TabG (P : Addr) (ql : Pos → Str) (T : List (Addr × Obj)) : Prop where
  bad : ∀ p ∈ T, okO p.2 = false
  tab : ∃ ps : Array Value, (P, tabObj ps) ∈ T ∧ TriplesOk ps.toList ∧ ∀ pos cv, codeAmong pos ps.toList = some cv → ∃ c, cv = .ref c ∧ HasCodeQ P (ql pos) T c
noncomputable def TleP (P : Addr) (T T' : List (Addr × Obj)) : Prop := ∀ p ∈ T, p.1 ≠ P → p ∈ T'
theorem TleP.refl (P : Addr) (T : List (Addr × Obj)) : TleP P T T := fun _ h _ => h
theorem TleP.trans {P : Addr} {a b c : List (Addr × Obj)} (x : TleP P a b) (y : TleP P b c) : TleP P a c := fun p h n => y p (x p h n) n
theorem HasCodeQ.le {P : Addr} {q : Str} {T T' : List (Addr × Obj)} {c : Addr} (x : HasCodeQ P q T c) (y : TleP P T T') : HasCodeQ P q T' c :=
  let ⟨n, oc, vs, t, h, r⟩ := x; ⟨n, oc, vs, t, y _ h n, r⟩
theorem HasCodeQ.rec {P : Addr} {q : Str} {T : List (Addr × Obj)} {h : Heap} {c : Addr} (x : HasCodeQ P q T c) (k : ∀ p ∈ T, p.1 ≠ P → h.get? p.1 = some p.2) : h.CodeRec (.ref c) q :=
  let ⟨n, oc, vs, t, m, hd, hv⟩ := x; ⟨c, oc, vs, t, rfl, k _ m n, hd, hv⟩
noncomputable abbrev TabL (T : List (Addr × Obj)) : Prop := TabG 214 (fun _ => qLam) T
noncomputable abbrev Tle (T T' : List (Addr × Obj)) : Prop := TleP 214 T T'
theorem Tle.refl (T : List (Addr × Obj)) : Tle T T := TleP.refl 214 T
noncomputable abbrev HasCode (T : List (Addr × Obj)) (c : Addr) : Prop := HasCodeQ 214 qLam T c
theorem codeAmong_append {pos p : Pos} {c cv : Value} (l : List Value) (h : TriplesOk l) : codeAmong pos (l ++ [rawInt p.line, rawInt p.col, c]) = some cv → codeAmong pos l = some cv ∨ (cv = c ∧ (p.line : Int) = pos.line ∧ (p.col : Int) = pos.col) := by
  fun_induction TriplesOk l with
  | case1 =>
    intro e
    simp only [List.nil_append, codeAmong, rawInt] at e
    split at e
    · rename_i q
      rw [Bool.and_eq_true, beq_iff_eq, beq_iff_eq] at q
      exact .inr ⟨(Option.some.inj e).symm, q.1, q.2⟩
    · cases e
  | case2 a t b u x rest ih =>
    intro e
    simp only [List.cons_append, codeAmong] at e ⊢
    split at e
    · rename_i q; rw [if_pos q]; exact .inl e
    · rename_i q; rw [if_neg q]; exact ih h e
  | case3 l h1 h2 => exact absurd h (by simp)
theorem triples_snoc {p : Pos} {c : Value} (l : List Value) (h : TriplesOk l) : TriplesOk (l ++ [rawInt p.line, rawInt p.col, c]) := by
  fun_induction TriplesOk l with
  | case1 => exact True.intro
  | case2 a t b u x rest ih => exact ih h
  | case3 l h1 h2 => exact absurd h (by simp)

section
variable {h₀ h : Heap} {L : Addr} {m : Str → Option Value} {own T : List (Addr × Obj)}
/-- two entries of one ledger at one place are one -/
theorem news_eq {news : List (Addr × Obj)} (N : News h₀ L h news) {p q : Addr × Obj} (hp : p ∈ news) (hq : q ∈ news) (e : p.1 = q.1) : p.2 = q.2 := by
  have a := (N p hp).1
  rw [e, (N q hq).1] at a
  exact (Option.some.inj a).symm
theorem off_of {news : List (Addr × Obj)} (N : News h₀ L h news) (hT : ∀ p ∈ T, okO p.2 = false) (hs : ∀ p ∈ T, p ∈ news) (ho : ∀ p ∈ own, p ∈ news ∧ okO p.2 = true) : ∀ p ∈ own, ∀ q ∈ T, p.1 ≠ q.1 := fun p hp q hq e => by
  have := news_eq N (ho p hp).1 (hs q hq) e
  have a := (ho p hp).2
  rw [this, hT q hq] at a
  cases a

/-- from a frame whose base hides the table back to its caller's frame -/
noncomputable def BackT (g h₀ : Heap) (L : Addr) (m : Str → Option Value) (own : List (Addr × Obj)) : Prop :=
  ∀ h' R, g.StaysIn h' → (∀ p ∈ R, h'.get? p.1 = some p.2 ∧ g.get? p.1 = none) → Fr h₀ L h' m ∧ News h₀ L h' (R ++ own) ∧ ∀ p ∈ R, ∀ q ∈ own, q.1 ≠ p.1
theorem hide_stays (F : Fr h₀ L h m) (N : News h₀ L h T) : h₀.StaysIn (hideAll h (T.map (·.1))) := fun b o e => hideAll_get _ (F.keep b o e) fun q => by
  obtain ⟨p, hp, rfl⟩ := List.mem_map.mp q
  rw [(N p hp).2.2] at e; cases e
theorem backT_of (F : Fr h₀ L h m) (N : News h₀ L h (own ++ T)) (hoff : ∀ p ∈ own, ∀ q ∈ T, p.1 ≠ q.1) : BackT (hideAll h (T.map (·.1))) h₀ L m own := by
  intro h' R k hR
  have NT : News h₀ L h T := fun p hp => N p (List.mem_append_right _ hp)
  have st := hide_stays F NT
  obtain ⟨oL, es, ep, hL, r⟩ := F.ns
  have hLg : (hideAll h (T.map (·.1))).get? L = some oL := hideAll_get _ hL fun q => by
    obtain ⟨p, hp, e⟩ := List.mem_map.mp q
    exact (NT p hp).2.1 e
  have ow : ∀ p ∈ own, (hideAll h (T.map (·.1))).get? p.1 = some p.2 := fun p hp => hideAll_get _ (N p (List.mem_append_left _ hp)).1 fun q => by
    obtain ⟨x, hx, e⟩ := List.mem_map.mp q
    exact hoff p hp x hx e.symm
  refine ⟨⟨⟨oL, es, ep, k _ _ hLg, r⟩, fun b o e => k _ _ (st b o e), F.above⟩, fun p hp => ?_, fun p hp q hq e => ?_⟩
  · rcases List.mem_append.mp hp with hp | hp
    · refine ⟨(hR p hp).1, fun e => ?_, ?_⟩
      · have := (hR p hp).2; rw [e, hLg] at this; cases this
      · cases q : h₀.get? p.1 with
        | none => rfl
        | some o => have := (hR p hp).2; rw [st _ _ q] at this; cases this
    · exact ⟨k _ _ (ow p hp), (N p (List.mem_append_left _ hp)).2⟩
  · have a := ow q hq
    rw [e, (hR p hp).2] at a; cases a
theorem BackT.out {g : Heap} {L' : Addr} {m' : Str → Option Value} {news R : List (Addr × Obj)} {h' : Heap} (b : BackT g h₀ L m own) (F : Fr g L' h' m') (N : News g L' h' news) (hs : ∀ p ∈ R, p ∈ news) :
    Fr h₀ L h' m ∧ News h₀ L h' (R ++ own) ∧ ∀ p ∈ R, ∀ q ∈ own, q.1 ≠ p.1 := b h' R F.keep fun p hp => ⟨(N p (hs p hp)).1, (N p (hs p hp)).2.2⟩
end

section
variable {w : World} {A : Around} {s : Shared} {Q E : Value → Shared → Prop} {K : Frag} {loose : List Str} {mean : ExcName → Option Value} {mg mb : Str → Option Value}
  {name qual : Str} {params : Arguments} {body : List Stmt} {scope : Scope} {dV kV doc pm cdv ct oc : Value} {an od : Option Addr} {osl : Array (Option Value)} {f : Addr} {args : List Value} {binds : List (Str × Value)}
  {h₀ : Heap} {L₀ : Addr} {m₀ : Str → Option Value} {own T : List (Addr × Obj)}
/-- enter a plain def of the top, the table laid aside -/
theorem enterT (F₀ : Fr h₀ L₀ s.heap m₀) (N₀ : News h₀ L₀ s.heap (own ++ T)) (X₀ : K.In h₀) (T₀ : Top topProg loose mean mg mb h₀) (hoff : ∀ p ∈ own, ∀ q ∈ T, p.1 ≠ q.1)
    (ho : K.lookup f = some ⟨oc, od, .func (fnOf name qual params body scope dV kV doc pm an cdv ct), osl⟩) (hcd : codeIn K cdv qual = true) (hroom : A.depth < recursionLimit)
    (hbind : BindsTo s (fnOf name qual params body scope dV kV doc pm an cdv ct) ⟨args, []⟩ binds) (hloc : ∀ y ∈ binds, scope.names.lookup y.1 = some .local)
    (h : ∀ L h₁, K.In (hideAll s.heap (T.map (·.1))) → Top topProg loose mean mg mb (hideAll s.heap (T.map (·.1))) → BackT (hideAll s.heap (T.map (·.1))) h₀ L₀ m₀ own → h₀.StaysIn (hideAll s.heap (T.map (·.1))) →
      Fr (hideAll s.heap (T.map (·.1))) L h₁ (fun y => binds.reverse.lookup y) → News (hideAll s.heap (T.map (·.1))) L h₁ T →
      wpAny (model PR w) (A.deeper (envOf qual scope L f cdv)) (execs body (envOf qual scope L f cdv))
        (fun fl s' => Q (match fl with | .ret v => v | _ => .none) s') (fun _ _ => False)
        { s with heap := h₁, toks := s.toks + binds.length })
    (hco : scope.isCoroutine = false) (hgen : scope.isGenerator = false) (hk : scope.kind = .function)
    (hcell : ∀ x ∈ scope.names, x.2 ≠ .cell) : wpAny (model PR w) A (call (.ref f) args) Q E s := by
  have NT : News h₀ L₀ s.heap T := fun p hp => N₀ p (List.mem_append_right _ hp)
  have st := hide_stays F₀ NT
  have X := X₀.keeps F₀.keep
  refine wpAny_call (codeAny_call_def (fd := fnOf name qual params body scope dV kV doc pm an cdv ct) (body := body) (binds := binds) hroom (X _ _ ho) rfl (T₀.keeps F₀.keep).nolimit (codeRec_of X hcd) rfl hbind hcell hloc (fun h₁ hns hk₁ => ?_) hco hgen hk)
  exact wpAny_mono (h s.heap.objs.size h₁ (X₀.keeps st) (T₀.keeps st) (backT_of F₀ N₀ hoff) st ⟨hns, fun b o e => hk₁ b o (of_hideAll _ e), Nat.le_of_eq (hideAll_size _ _)⟩
    (fun p hp => ⟨hk₁ _ _ (NT p hp).1, Nat.ne_of_lt (Heap.lt_size (NT p hp).1), hideAll_none _ (List.mem_map_of_mem hp)⟩)) (fun fl s' hl => hl) fun _ _ x => x.elim
/-- enter a def of the top that has cells, the table laid aside -/
theorem enterTC (F₀ : Fr h₀ L₀ s.heap m₀) (N₀ : News h₀ L₀ s.heap (own ++ T)) (X₀ : K.In h₀) (T₀ : Top topProg loose mean mg mb h₀) (hoff : ∀ p ∈ own, ∀ q ∈ T, p.1 ≠ q.1)
    (ho : K.lookup f = some ⟨oc, od, .func (fnOf name qual params body scope dV kV doc pm an cdv ct), osl⟩) (hcd : codeIn K cdv qual = true) (hroom : A.depth < recursionLimit)
    (hbind : BindsTo s (fnOf name qual params body scope dV kV doc pm an cdv ct) ⟨args, []⟩ binds) (hkind : (binds.all fun y => scope.names.lookup y.1 == some .local || scope.names.lookup y.1 == some .cell) = true)
    (hnd : ((cellsFrom 0 scope.names []).map (·.1)).Nodup)
    (h : ∀ L h₁ tk cells, K.In (hideAll s.heap (T.map (·.1))) → Top topProg loose mean mg mb (hideAll s.heap (T.map (·.1))) → BackT (hideAll s.heap (T.map (·.1))) h₀ L₀ m₀ own → h₀.StaysIn (hideAll s.heap (T.map (·.1))) →
      Fr (hideAll s.heap (T.map (·.1))) L h₁ (bindL (envOfC qual scope L f cdv).kindOf binds fun _ => none) → News (hideAll s.heap (T.map (·.1))) L h₁ (cells ++ T) →
      CellsAre (bindC (envOfC qual scope L f cdv).kindOf binds fun _ => none) (cellsFrom (L + 1) scope.names []) cells →
      wpAny (model PR w) (A.deeper (envOfC qual scope L f cdv)) (execs body (envOfC qual scope L f cdv))
        (fun fl s' => Q (match fl with | .ret v => v | _ => .none) s') (fun _ _ => False)
        { s with heap := h₁, toks := tk })
    (hco : scope.isCoroutine = false) (hgen : scope.isGenerator = false) (hk : scope.kind = .function) : wpAny (model PR w) A (call (.ref f) args) Q E s := by
  have NT : News h₀ L₀ s.heap T := fun p hp => N₀ p (List.mem_append_right _ hp)
  have st := hide_stays F₀ NT
  have X := X₀.keeps F₀.keep
  refine wpAny_call (codeAny_call_function hroom (X _ _ ho) rfl hco hgen rfl (codeRec_of X hcd) (hbind _ _ _ _ ?_))
  refine wpAny_newFunctionEnv_cells hk (kindsX hkind _) fun env' he s' x => ?_
  subst he
  refine ⟨((T₀.keeps F₀.keep).nolimit).keeps x.toInCall.keep, codeAny_func ?_⟩
  obtain ⟨h₁, tk, rfl, _⟩ := x.done
  have hk₁ := x.toInCall.keep
  obtain ⟨cells, NC, Y⟩ := Cl.news (h₀ := s.heap) (Nat.le_refl _) fun n c hm => ⟨x.cell n c (lookup_of_mem_nodup (cellsFrom_names scope.names 0 (s.heap.objs.size + 1) [] [] rfl ▸ hnd) hm), x.above n c hm⟩
  refine wpAny_mono (h s.heap.objs.size h₁ tk cells (X₀.keeps st) (T₀.keeps st) (backT_of F₀ N₀ hoff) st ⟨x.toInCall.ns, fun b o e => hk₁ b o (of_hideAll _ e), Nat.le_of_eq (hideAll_size _ _)⟩ (fun p hp => ?_) Y) (fun fl s' hl => hl) fun _ _ x => x.elim
  rcases List.mem_append.mp hp with hp | hp
  · refine ⟨(NC p hp).1, (NC p hp).2.1, ?_⟩
    cases q : (hideAll s.heap (T.map (·.1))).get? p.1 with
    | none => rfl
    | some o => have := of_hideAll _ q; rw [(NC p hp).2.2] at this; cases this
  · exact ⟨hk₁ _ _ (NT p hp).1, Nat.ne_of_lt (Heap.lt_size (NT p hp).1), hideAll_none _ (List.mem_map_of_mem hp)⟩
end

-- part lam
theorem reset_lam : True := by w_top off; trivial
/-- the table with one code object more -/
theorem tab_grown {s : Shared} {g h' : Heap} {L P c' : Addr} {m : Str → Option Value} {own T : List (Addr × Obj)} {ql : Pos → Str} {qual : Str} {pos : Pos} {ps : Array Value} (hql : ∀ pos' : Pos, (pos.line : Int) = pos'.line → (pos.col : Int) = pos'.col → ql pos' = qual)
    (F : Fr g L s.heap m) (N : News g L s.heap (own ++ T)) (H : TabG P ql T) (hps : (P, tabObj ps) ∈ T) (ht : TriplesOk ps.toList) (hcodes : ∀ pos cv, codeAmong pos ps.toList = some cv → ∃ c, cv = .ref c ∧ HasCodeQ P (ql pos) T c) (hoff : ∀ p ∈ own, p.1 ≠ P)
    (hx : Heap.ExtBut P s.heap h') (hge : s.heap.objs.size ≤ c') (hrec : h'.CodeRec (.ref c') qual) (htb : h'.get? P = some (tabObj (ps ++ #[rawInt pos.line, rawInt pos.col, .ref c']))) :
    ∃ T', TabG P ql T' ∧ TleP P T T' ∧ HasCodeQ P qual T' c' ∧ Fr g L h' m ∧ News g L h' (own ++ T') := by
  have hm := N _ (List.mem_append_right own hps)
  obtain ⟨c₂, oc, vs, t, e2, hoc, hd, hv⟩ := hrec
  cases e2
  have hLs : L < s.heap.objs.size := F.ns.lt
  have hLc : L < c' := Nat.lt_of_lt_of_le hLs hge
  have fresh : ∀ b, L < b → g.get? b = none := fun b hb => Heap.get?_none_of_le (Nat.le_trans F.above (Nat.le_of_lt hb))
  have hcP : c' ≠ P := Nat.ne_of_gt (Nat.lt_of_lt_of_le (Heap.lt_size hm.1) hge)
  let T' : List (Addr × Obj) := (P, tabObj (ps ++ #[rawInt pos.line, rawInt pos.col, .ref c'])) :: (c', oc) :: T.filter (fun p => p.1 != P)
  have hTl : TleP P T T' := fun p hp hn => List.mem_cons_of_mem _ (List.mem_cons_of_mem _ (List.mem_filter.mpr ⟨hp, by simpa using hn⟩))
  have hHC : HasCodeQ P qual T' c' := ⟨hcP, oc, vs, t, by simp [T'], hd, hv⟩
  refine ⟨T', ⟨fun p hp => ?_, _, List.mem_cons_self, ?_, fun pos' cv' e => ?_⟩, hTl, hHC, ⟨F.ns.extBut hx hm.2.1.symm, fun b o e => hx b o (fun q => by rw [q, hm.2.2] at e; cases e) (F.keep b o e), F.above⟩, fun p hp => ?_⟩
  · rcases List.mem_cons.mp hp with rfl | hp
    · rfl
    · rcases List.mem_cons.mp hp with rfl | hp
      · unfold okO; simp only [hd]
      · exact H.bad p (List.mem_filter.mp hp).1
  · have := triples_snoc (p := pos) (c := .ref c') ps.toList ht
    simpa using this
  · rw [Array.toList_append] at e
    rcases codeAmong_append ps.toList ht e with e | ⟨e, e1, e2⟩
    · obtain ⟨c₁, e1, h1⟩ := hcodes _ _ e
      exact ⟨c₁, e1, h1.le hTl⟩
    · rw [hql pos' e1 e2]; exact ⟨c', e, hHC⟩
  · rcases List.mem_append.mp hp with hp | hp
    · have n := N p (List.mem_append_left _ hp)
      exact ⟨hx _ _ (hoff p hp) n.1, n.2⟩
    · rcases List.mem_cons.mp hp with rfl | hp
      · exact ⟨htb, hm.2⟩
      · rcases List.mem_cons.mp hp with rfl | hp
        · exact ⟨hoc, Nat.ne_of_gt hLc, fresh _ hLc⟩
        · obtain ⟨hp1, hp2⟩ := List.mem_filter.mp hp
          have n := N p (List.mem_append_right _ hp1)
          exact ⟨hx _ _ (by simpa using hp2) n.1, n.2⟩
section
variable {M : Model} {A : Around} {E : Value → Shared → Prop} {s : Shared} {g : Heap} {L a : Addr} {m mg mb : Str → Option Value} {cn : Str} {cs : Scope} {cl : List (Str × Addr)} {own T : List (Addr × Obj)}
  {loose : List Str} {mean : ExcName → Option Value} {name : Str} {params : Arguments} {body : Expr} {scope : Scope} {pos : Pos} {firstLine : Nat} {clos : List (Str × Addr)}
/-- a lambda of a def whose table is carried along: its code object stands in the table, or comes there -/
theorem lam_T {Q : Value → Shared → Prop} {P c₀ : Addr} {ql : Pos → Str} {qual : Str} (hql : ∀ pos' : Pos, (pos.line : Int) = pos'.line → (pos.col : Int) = pos'.col → ql pos' = qual) (hgP : mainGlobals ≠ P)
    (F : Fr g L s.heap m) (N : News g L s.heap (own ++ T)) (H : TabG P ql T) (Tp : Top topProg loose mean mg mb g) (C : CodeHd g c₀ P) (hoff : ∀ p ∈ own, p.1 ≠ P)
    (hcl : closureFor scope (envX cn cs L a (.ref c₀) cl) = pure clos)
    (h : ∀ f c' ctv h' tk T', TabG P ql T' → TleP P T T' → HasCodeQ P qual T' c' → Fr g L h' m → News g L h' ((f, kla_obj name qual params body scope clos ((mg "__name__").getD .none) c' ctv) :: (own ++ T')) → Q (.ref f) { s with heap := h', toks := tk }) :
    wpAny M A (makeFunction name qual params (.expr body) scope (envX cn cs L a (.ref c₀) cl) [] [] [] pos firstLine) Q E s := by
  obtain ⟨ps, hps, ht, hcodes⟩ := H.tab
  have hm := N _ (List.mem_append_right own hps)
  have hgs := Tp.g.keeps F.keep
  obtain ⟨bm, ob, b1, b2, b3, b4, b5, b6⟩ := Tp.bmain
  have hbP : bm ≠ P := fun q => by
    have e := F.keep _ _ b3
    rw [q, hm.1] at e; cases e; cases b4
  have hbG : bm ≠ mainGlobals := fun q => by
    obtain ⟨o, es, ep, e, hd, _⟩ := Tp.g
    rw [q, e] at b3; cases b3; rw [hd] at b6; cases b6
  have hb : s.heap.BuiltinsAt mg P := ⟨bm, ob, b1, b2, hbG, hbP, F.keep _ _ b3, b4, b5, b6⟩
  have fresh : ∀ b, L < b → g.get? b = none := fun b hb => Heap.get?_none_of_le (Nat.le_trans F.above (Nat.le_of_lt hb))
  have hLs : L < s.heap.objs.size := F.ns.lt
  cases hf : codeAmong pos ps.toList with
  | some cv =>
    obtain ⟨c', rfl, hc'⟩ := hcodes _ _ hf
    rw [hql pos rfl rfl] at hc'
    refine kla_makeFunctionHit (mg := mg) hcl rfl hgs rfl (C.keeps F.keep) hm.1 ht hf hb fun ctv h' tk hk hsz => ?_
    have hLf : L < h'.objs.size := Nat.lt_of_lt_of_le hLs hsz
    refine h h'.objs.size c' ctv _ tk T H (TleP.refl P T) hc' ⟨(F.ns.keeps hk).push _, fun b o e => Heap.get?_push_of_some _ (hk b o (F.keep b o e)), F.above⟩ fun p hp => ?_
    rcases List.mem_cons.mp hp with rfl | hp
    · exact ⟨Heap.get?_push_size _ rfl, Nat.ne_of_gt hLf, fresh _ hLf⟩
    · exact ⟨Heap.get?_push_of_some _ (hk _ _ (N p hp).1), (N p hp).2⟩
  | none =>
    refine kla_makeFunction (mg := mg) hcl rfl hgs rfl (C.keeps F.keep) hm.1 ht hf hgP hb fun c' ctv h' tk hx hge hlt hrec htb => ?_
    obtain ⟨_, hH, hTl, hHC, F₁, N₁⟩ := tab_grown hql F N H hps ht hcodes hoff hx hge hrec htb
    have hLf : L < h'.objs.size := Nat.lt_trans (Nat.lt_of_lt_of_le hLs hge) hlt
    refine h h'.objs.size c' ctv _ tk _ hH hTl hHC (F₁.push _) fun p hp => ?_
    rcases List.mem_cons.mp hp with rfl | hp
    · exact ⟨Heap.get?_push_size _ rfl, Nat.ne_of_gt hLf, fresh _ hLf⟩
    · exact ⟨Heap.get?_push_of_some _ (N₁ p hp).1, (N₁ p hp).2⟩
end
section
variable {prog : Program} {w : World} {A : Around} {E : Value → Shared → Prop} {s : Shared} {g : Heap} {L q : Addr} {m : Str → Option Value} {own₁ own₂ : List (Addr × Obj)} {fd : FuncData} {sl : Array (Option Value)} {name : Str} {v : Value}
theorem fn_truthy {Q : Bool → Shared → Prop} {od : Option Addr} (hq : s.heap.get? q = some ⟨.type "function", od, .func fd, sl⟩) (h : Q true s) : wpAny (model prog w) A (truthy (.ref q)) Q E s := by
  have hT : s.TypeIs (.ref q) "function" := ⟨_, hq, rfl⟩
  unfold truthy
  refine wpAny_bind (wpAny_callSpecial?_none hT (fn_look "__bool__" (r := none) (by kernel_rfl)) ?_)
  refine wpAny_bind (wpAny_specialOf hT (fn_look "__len__" (r := none) (by kernel_rfl)) ?_)
  exact wpAny_pure h
/-- an attribute laid on a function object of the ledger that bears none yet -/
theorem set_fn {Q : Unit → Shared → Prop} (F : Fr g L s.heap m) (N : News g L s.heap (own₁ ++ (q, ⟨.type "function", none, .func fd, sl⟩) :: own₂)) (hl : typeLookup (.type "function") name = pure none)
    (hne : ∀ p ∈ own₁ ++ own₂, p.2 ≠ ⟨.type "function", none, .func fd, sl⟩)
    (h : ∀ d t h' tk, Fr g L h' m → News g L h' ((d, oneD w.params name t v) :: (own₁ ++ (q, ⟨.type "function", some d, .func fd, sl⟩) :: own₂)) → (∀ p ∈ own₁ ++ own₂, p.1 < d) → Q () { s with heap := h', toks := tk }) :
    wpAny (model prog w) A (setAttr (.ref q) name v) Q E s := by
  have hm : (q, (⟨.type "function", none, .func fd, sl⟩ : Obj)) ∈ own₁ ++ (q, ⟨.type "function", none, .func fd, sl⟩) :: own₂ := List.mem_append_right _ (.head _)
  have nq : ∀ p ∈ own₁ ++ own₂, p ∈ own₁ ++ (q, (⟨.type "function", none, .func fd, sl⟩ : Obj)) :: own₂ := fun p hp => by
    rcases List.mem_append.mp hp with hp | hp
    · exact List.mem_append_left _ hp
    · exact List.mem_append_right _ (.tail _ hp)
  have ne : ∀ p ∈ own₁ ++ own₂, p.1 ≠ q := fun p hp e => hne p hp (news_eq N (nq p hp) hm e)
  have hLs : L < s.heap.objs.size := F.ns.lt
  refine fn_setAttr (N _ hm).1 hl fun d t h' tk hd hk hq' hd' => ?_
  subst hd
  obtain ⟨oL, es, ep, hL, r⟩ := F.ns
  refine h _ t h' tk ⟨⟨oL, es, ep, hk _ _ (N _ hm).2.1.symm hL, r⟩, fun b o e => hk b o (fun z => ?_) (F.keep b o e), F.above⟩ (fun p hp => ?_) fun p hp => Heap.lt_size (N p (nq p hp)).1
  · have := (N _ hm).2.2; rw [← z, e] at this; cases this
  · rcases List.mem_cons.mp hp with rfl | hp
    · exact ⟨hd', Nat.ne_of_gt hLs, Heap.get?_none_of_le (Nat.le_trans F.above (Nat.le_of_lt hLs))⟩
    · rcases List.mem_append.mp hp with hp | hp
      · have z := List.mem_append_left own₂ hp
        exact ⟨hk _ _ (ne p z) (N p (nq p z)).1, (N p (nq p z)).2⟩
      · rcases List.mem_cons.mp hp with rfl | hp
        · exact ⟨hq', (N _ hm).2⟩
        · have z := List.mem_append_right own₁ hp
          exact ⟨hk _ _ (ne p z) (N p (nq p z)).1, (N p (nq p z)).2⟩
end

theorem off214 {h₀ h : Heap} {L P : Addr} {ql : Pos → Str} {T news : List (Addr × Obj)} (N : News h₀ L h news) (HT : TabG P ql T) (hs : ∀ p ∈ T, p ∈ news) {p : Addr × Obj} (hp : p ∈ news) (ho : okO p.2 = true) : p.1 ≠ P := fun e => by
  obtain ⟨ps, hps, _⟩ := HT.tab
  have := news_eq N hp (hs _ hps) e
  rw [this] at ho; cases ho
theorem okO_cell {o : Obj} {v : Option Value} (h : o.data = .cell v) : okO o = true := by unfold okO; rw [h]
theorem news_perm {h₀ h : Heap} {L : Addr} {H T own : List (Addr × Obj)} (N : News h₀ L h ((H ++ T) ++ own)) : News h₀ L h ((H ++ own) ++ T) := fun p hp => N p (by
  simp only [List.mem_append] at hp ⊢
  rcases hp with (a | a) | a
  · exact .inl (.inl a)
  · exact .inr a
  · exact .inl (.inr a))
theorem off_perm {h₀ h : Heap} {L : Addr} {H T own : List (Addr × Obj)} {P : Addr} {ql : Pos → Str} (N : News h₀ L h ((H ++ T) ++ own)) (HT : TabG P ql T) (hH : ∀ p ∈ H, okO p.2 = true) (OF : ∀ p ∈ H ++ T, ∀ q ∈ own, q.1 ≠ p.1) : ∀ p ∈ H ++ own, ∀ q ∈ T, p.1 ≠ q.1 := fun p hp q hq => by
  rcases List.mem_append.mp hp with a | a
  · exact off_of (own := H) (T := T) N HT.bad (fun x hx => List.mem_append_left _ (List.mem_append_right _ hx)) (fun x hx => ⟨List.mem_append_left _ (List.mem_append_left _ hx), hH x hx⟩) p a q hq
  · exact OF q (List.mem_append_right _ hq) p a

section
variable {w : World} {A : Around} {s : Shared} {Q E : Value → Shared → Prop} {K : Frag} {loose : List Str} {mean : ExcName → Option Value} {mg mb : Str → Option Value}
  {name qual : Str} {params : Arguments} {body : Expr} {scope : Scope} {cl : List (Str × Addr)} {pm ctv : Value} {c' f : Addr} {args : List Value} {binds : List (Str × Value)}
  {h₀ : Heap} {L₀ : Addr} {m₀ : Str → Option Value} {news₀ : List (Addr × Obj)}
/-- enter a lambda's object from a frame of the walk -/
theorem enterL (F₀ : Fr h₀ L₀ s.heap m₀) (N₀ : News h₀ L₀ s.heap news₀) (X₀ : K.In h₀) (T₀ : Top topProg loose mean mg mb h₀)
    (ho : s.heap.get? f = some (kla_obj name qual params body scope cl pm c' ctv)) (hcd : s.heap.CodeRec (.ref c') qual) (hroom : A.depth < recursionLimit)
    (hbind : bindArgs (kla_fn name qual params body scope cl pm (.ref c') ctv) ⟨args, []⟩ = pure binds) (hloc : ∀ y ∈ binds, scope.names.lookup y.1 = some .local)
    (h : ∀ L h₁, K.In s.heap → Top topProg loose mean mg mb s.heap → Back s.heap h₀ L₀ m₀ news₀ → Fr s.heap L h₁ (fun y => binds.reverse.lookup y) → News s.heap L h₁ [] →
      wpAny (model PR w) (A.deeper (envX qual scope L f (.ref c') cl)) (eval body (envX qual scope L f (.ref c') cl)) Q (fun _ _ => False) { s with heap := h₁, toks := s.toks + binds.length })
    (hco : scope.isCoroutine = false) (hgen : scope.isGenerator = false) (hk : scope.kind = .function)
    (hcell : ∀ x ∈ scope.names, x.2 ≠ .cell) : wpAny (model PR w) A (call (.ref f) args) Q E s := by
  have X := X₀.keeps F₀.keep
  have T := T₀.keeps F₀.keep
  refine wpAny_call (kla_callFunE hroom ho rfl hco hgen rfl hcd ?_)
  rw [hbind]
  refine wpAny_pure (wpAny_newFunctionEnv hcell hloc (fun h₁ hns hsb => ⟨T.nolimit.fresh _ hsb, ?_⟩) hk)
  show codeAny _ _ (.expr body (envX qual scope s.heap.objs.size f (.ref c') cl)) _ _
  have hk₁ : ∀ b o, s.heap.get? b = some o → h₁.get? b = some o := fun b o e => hsb.extBut b o (Nat.ne_of_lt (Heap.lt_size e)) (Heap.get?_push_of_some _ e)
  exact kla_codeExpr (wpAny_mono (h s.heap.objs.size h₁ X T (fun h' k => ⟨F₀.keeps k, N₀.grown k⟩) ⟨hns, hk₁, Nat.le_refl _⟩ News.nil) (fun v s' hl => hl) fun _ _ x => x.elim)
/-- a free name: its cell stands in the base -/
theorem nameX_H {M : Model} {h : Heap} {L a c : Addr} {m : Str → Option Value} {cn x : Str} {cs : Scope} {ccd v : Value} {o : Obj} {pos : Pos} (F : Fr h L s.heap m) (hc : cl.lookup x = some c) (hv : h.get? c = some o) (hd : o.data = .cell (some v)) (hq : Q v s)
    (hk : cs.kind = .function := by rfl) (hx : (envX cn cs L a ccd cl).kindOf x = some .free := by rfl) (hb : (x == ("__debug__" : Str)) = false := by decide) (hn : (x == ("__classdict__" : Str)) = false := by decide) :
    wpAny M A (eval (.Name x pos) (envX cn cs L a ccd cl)) Q E s := wpAny_Name (wpAny_loadName_free hk hx hc ⟨_, F.keep _ _ hv, hd⟩ hq hn) hb
end

-- part hit
theorem reset_hit : True := by w_top off; trivial
noncomputable abbrev RetII (h₀ : Heap) (L : Addr) (m : Str → Option Value) (news : List (Addr × Obj)) (s : Shared) (Q : Value → Shared → Prop) (i j : Int) : Prop :=
  ∀ (a : Addr) (t1 t2 : Tok) (h' : Heap) (tk' : Nat), Fr h₀ L h' m → News h₀ L h' ((a, tupObj [.int i t1, .int j t2]) :: news) ∧ (∀ p ∈ news, p.1 ≠ a) → Q (.ref a) { s with heap := h', toks := tk' }
noncomputable def SpanOK (w : World) (loose : List Str) (mean : ExcName → Option Value) (mg mb : Str → Option Value) (B : List (Addr × Obj)) (f : Addr) (i j : Int) : Prop :=
  ∀ {dp un : Nat} {fr : Option (List Env)} {gd : Option (List Code)} {s : Shared} {Q E : Value → Shared → Prop} {h₀ : Heap} {L : Addr} {m : Str → Option Value} {news : List (Addr × Obj)},
    Fr h₀ L s.heap m → News h₀ L s.heap news → (hd.heap_1 w.params).In h₀ → Top topProg loose mean mg mb h₀ → (∀ p ∈ B, s.heap.get? p.1 = some p.2) → dp + 1 < recursionLimit → RetII h₀ L m news s Q i j →
      wpAny (model PR w) (Ar dp fr gd un) (call (.ref f) []) Q E s
noncomputable def HitL (w : World) (loose : List Str) (mean : ExcName → Option Value) (mg mb : Str → Option Value) (H T : List (Addr × Obj)) (q : Addr) (i j : Int) : Prop :=
  ∃ d f tk fd B, (q, (⟨.type "function", some d, .func fd, #[]⟩ : Obj)) ∈ H ∧ (d, oneD w.params (Str.ofString "span") tk (.ref f)) ∈ H ∧ SpanOK w loose mean mg mb B f i j ∧ (∃ fdo, (f, (⟨.type "function", none, .func fdo, #[]⟩ : Obj)) ∈ B) ∧ (∀ p ∈ B, p ∈ H ∨ (p ∈ T ∧ p.1 ≠ 214)) ∧ ∀ p ∈ H, okO p.2 = true
theorem HitL.ok {w : World} {loose : List Str} {mean : ExcName → Option Value} {mg mb : Str → Option Value} {H T : List (Addr × Obj)} {q : Addr} {i j : Int} (x : HitL w loose mean mg mb H T q i j) : ∀ p ∈ H, okO p.2 = true := by
  obtain ⟨_, _, _, _, _, _, _, _, _, _, r⟩ := x
  exact r
theorem HitL.le {w : World} {loose : List Str} {mean : ExcName → Option Value} {mg mb : Str → Option Value} {H T T' : List (Addr × Obj)} {q : Addr} {i j : Int} (x : HitL w loose mean mg mb H T q i j) (y : Tle T T') : HitL w loose mean mg mb H T' q i j := by
  obtain ⟨d, f, tk, fd, B, a, b, c, c', e, r⟩ := x
  exact ⟨d, f, tk, fd, B, a, b, c, c', fun p hp => (e p hp).imp id fun z => ⟨y p z.1 z.2, z.2⟩, r⟩
theorem HitL.use {w : World} {loose : List Str} {mean : ExcName → Option Value} {mg mb : Str → Option Value} {H T : List (Addr × Obj)} {q : Addr} {i j : Int} {h : Heap} (x : HitL w loose mean mg mb H T q i j) (kH : ∀ p ∈ H, h.get? p.1 = some p.2) (kT : ∀ p ∈ T, h.get? p.1 = some p.2) :
    ∃ d f tk fd, h.get? q = some (⟨.type "function", some d, .func fd, #[]⟩ : Obj) ∧ h.get? d = some (oneD w.params (Str.ofString "span") tk (.ref f)) ∧ FnAt f h ∧ ∃ B, SpanOK w loose mean mg mb B f i j ∧ ∀ p ∈ B, h.get? p.1 = some p.2 := by
  obtain ⟨d, f, tk, fd, B, a, b, c, ⟨fdo, c'⟩, e, r⟩ := x
  have hB : ∀ p ∈ B, h.get? p.1 = some p.2 := fun p hp => (e p hp).elim (kH p) fun z => kT p z.1
  exact ⟨d, f, tk, fd, kH _ a, kH _ b, ⟨_, _, _, _, hB _ c'⟩, B, c, hB⟩
section
variable {w : World} {dp un : Nat} {fr : Option (List Env)} {gd : Option (List Code)} {s : Shared} {Q E : Value → Shared → Prop} {loose : List Str} {mean : ExcName → Option Value} {mg mb : Str → Option Value} {h₀ : Heap} {L : Addr} {m : Str → Option Value} {own T : List (Addr × Obj)}
  (F : Fr h₀ L s.heap m) (N : News h₀ L s.heap (own ++ T)) (X : (hd.heap_1 w.params).In h₀) (Tp : Top topProg loose mean mg mb h₀) (HT : TabL T) (hoff : ∀ p ∈ own, ∀ q ∈ T, p.1 ≠ q.1) {i j : Int} {t1 t2 : Tok}
include F N X Tp HT hoff
set_option maxHeartbeats 8000000 in
theorem hit_ok (hdp : dp + 1 < recursionLimit)
    (ret : ∀ q Hh T' h' tk', HitL w loose mean mg mb Hh T' q i j → TabL T' → Tle T T' → Fr h₀ L h' m → News h₀ L h' ((Hh ++ own) ++ T') → (∀ p ∈ Hh ++ own, ∀ q ∈ T', p.1 ≠ q.1) → Q (.ref q) { s with heap := h', toks := tk' }) :
    wpAny (model PR w) (Ar dp fr gd un) (call (.ref 219) [.int i t1, .int j t2]) Q E s := by
  k_dflt (refine' enterTC F N X Tp hoff ?k6 ?k7 ?k8 ?k9 ?kB ?kD ?_ ?c2 ?c3 ?c4; (case k6 => k_is); (case k7 => k_is); (case k8 => (dsimp only; omega)); (case k9 => exact BindsTo.of_eq rfl); (case kB => exact rfl); (case kD => decide +kernel); (case c2 => exact rfl); (case c3 => exact rfl); (case c4 => exact rfl); k_whole)
  intro L' h₁ tk cells X' T' back st F' N' Y'
  obtain ⟨o1, o2, rfl, d1, d2⟩ := CellsAre.two Y'
  have C : CodeHd (hideAll s.heap (T.map (·.1))) 218 214 := codeHd_of_K X' (by kernel_rfl)
  clear F N X Tp Y' hoff
  replace d1 : o1.data = .cell (some (.int j t2)) := d1
  replace d2 : o2.data = .cell (some (.int i t1)) := d2
  simp only [List.cons_append, List.nil_append] at N'
  have hq : ((Str.ofString "_law_hit" ++ ".<locals>." : Str) ++ "<lambda>" : Str) = qLam := by decide +kernel
  (repeat' (first | (k_unfold; (try dsimp only)) | ((((fail_if_success (with_reducible show wpAny _ _ (exec (Stmt.While _ _ _ _) _) _ _ _)); (fail_if_success (with_reducible show wpAny _ _ (exec (Stmt.For _ _ _ _ _) _) _ _ _)))); (first | walk1 | (dsimp only; walk1)))))
  refine kla_eval rfl ?_
  show wpAny _ _ (makeFunction _ ((Str.ofString "_law_hit" ++ ".<locals>." : Str) ++ "<lambda>" : Str) _ _ _ _ _ _ _ _ _) _ _ _
  rw [hq]
  refine lam_T (fun _ _ _ => rfl) (by decide) (own := [(L' + 1 + 1, o1), (L' + 1, o2)]) F' N' HT T' C ?_ rfl ?_
  · exact List.forall_mem_cons.mpr ⟨off214 N' HT (fun p hp => .tail _ (.tail _ hp)) (.head _) (okO_cell d1), List.forall_mem_cons.mpr ⟨off214 N' HT (fun p hp => .tail _ (.tail _ hp)) (.tail _ (.head _)) (okO_cell d2), fun _ h => nomatch h⟩⟩
  clear F' N'
  intro f c' ctv h' tk' T₁ HT₁ le₁ hc₁ F' N'
  simp only [List.cons_append, List.nil_append] at N'
  (repeat' (first | (k_unfold; (try dsimp only)) | ((((fail_if_success (with_reducible show wpAny _ _ (exec (Stmt.While _ _ _ _) _) _ _ _)); (fail_if_success (with_reducible show wpAny _ _ (exec (Stmt.For _ _ _ _ _) _) _ _ _)))); (first | walk1 | (dsimp only; walk1)))))
  rename Fr _ _ _ _ => F'
  rename News _ _ _ _ => N'
  refine kla_eval rfl ?_
  show wpAny _ _ (makeFunction _ ((Str.ofString "_law_hit" ++ ".<locals>." : Str) ++ "<lambda>" : Str) _ _ _ _ _ _ _ _ _) _ _ _
  rw [hq]
  refine lam_T (fun _ _ _ => rfl) (by decide) (own := [_, _, _]) F' N' HT₁ T' C ?_ rfl ?_
  · refine List.forall_mem_cons.mpr ⟨off214 N' HT₁ (fun p hp => .tail _ (.tail _ (.tail _ hp))) (.head _) rfl, List.forall_mem_cons.mpr ⟨off214 N' HT₁ (fun p hp => .tail _ (.tail _ (.tail _ hp))) (.tail _ (.head _)) (okO_cell d1), List.forall_mem_cons.mpr ⟨off214 N' HT₁ (fun p hp => .tail _ (.tail _ (.tail _ hp))) (.tail _ (.tail _ (.head _))) (okO_cell d2), fun _ h => nomatch h⟩⟩⟩
  clear F' N'
  intro f2 c2 ctv2 h2 tk2 T₂ HT₂ le₂ hc₂ F' N'
  simp only [List.cons_append, List.nil_append] at N'
  (repeat' (first | (k_unfold; (try dsimp only)) | ((((fail_if_success (with_reducible show wpAny _ _ (exec (Stmt.While _ _ _ _) _) _ _ _)); (fail_if_success (with_reducible show wpAny _ _ (exec (Stmt.For _ _ _ _ _) _) _ _ _)))); (first | walk1 | (dsimp only; walk1)))))
  have le₁₂ := le₁.trans le₂
  refine set_fn (own₁ := [_]) F' N' fn_span ?_ ?_
  · refine List.forall_mem_cons.mpr ⟨fun z => ?_, List.forall_mem_cons.mpr ⟨fun z => ?_, List.forall_mem_cons.mpr ⟨fun z => ?_, fun p hp z => ?_⟩⟩⟩
    · have z := congrArg (fun o : Obj => match o.data with | .func fd => (match fd.body with | .expr (.Constant ..) => true | _ => false) | _ => false) z; cases z
    · have z := congrArg Obj.data z; rw [show (_, o1).2 = o1 from rfl, d1] at z; cases z
    · have z := congrArg Obj.data z; rw [show (_, o2).2 = o2 from rfl, d2] at z; cases z
    · have := HT₂.bad p hp; rw [z] at this; cases this
  clear F' N'
  intro d t h3 tk3 F' N' _
  simp only [List.cons_append, List.nil_append] at N'
  (repeat' (first | (k_unfold; (try dsimp only)) | ((((fail_if_success (with_reducible show wpAny _ _ (exec (Stmt.While _ _ _ _) _) _ _ _)); (fail_if_success (with_reducible show wpAny _ _ (exec (Stmt.For _ _ _ _ _) _) _ _ _)))); (first | walk1 | (dsimp only; walk1)))))
  rename Fr _ _ _ _ => F'
  rename News _ _ _ _ => N'
  have N'' : News _ L' h3 ([_, _, _, _, _] ++ T₂) := N'
  obtain ⟨FR, NR, OF⟩ := back.out F' N'' (fun _ hp => hp)
  refine ret f _ T₂ h3 _ ⟨d, f2, t, _, _ ++ T₂.filter (fun p => p.1 != 214), .tail _ (.tail _ (.head _)), .head _, ?hS, ⟨_, List.mem_append_left _ (.tail _ (.head _))⟩, (fun p hp => (List.mem_append.mp hp).imp id fun a => ⟨(List.mem_filter.mp a).1, by simpa using (List.mem_filter.mp a).2⟩), ?hH⟩ HT₂ le₁₂ FR (news_perm NR) (off_perm NR HT₂ ?hH OF)
  case hH => exact List.forall_mem_cons.mpr ⟨rfl, List.forall_mem_cons.mpr ⟨rfl, List.forall_mem_cons.mpr ⟨rfl, List.forall_mem_cons.mpr ⟨okO_cell d1, List.forall_mem_cons.mpr ⟨okO_cell d2, fun _ h => nomatch h⟩⟩⟩⟩⟩
  clear ret FR NR OF N'' N' F' back
  unfold SpanOK
  intro dp un fr gd s Q E h₀ L m news F N X Tp hB hdp ret
  have hB1 := fun p hp => hB p (List.mem_append_left _ hp)
  have hB2 := fun p hp => hB p (List.mem_append_right _ hp)
  clear hB
  have hq2 := hB1 _ (List.Mem.tail _ (List.Mem.head _))
  have hc1 := hB1 _ (List.Mem.tail _ (List.Mem.tail _ (List.Mem.tail _ (List.Mem.head _))))
  have hc2 := hB1 _ (List.Mem.tail _ (List.Mem.tail _ (List.Mem.tail _ (List.Mem.tail _ (List.Mem.head _)))))
  dsimp only at hq2 hc1 hc2
  obtain ⟨hne, oc, vs, tq, hoc, hocd, hocv⟩ := hc₂
  have hrec : s.heap.CodeRec (.ref c2) qLam := ⟨c2, oc, vs, tq, rfl, hB2 (c2, oc) (List.mem_filter.mpr ⟨hoc, by simpa using hne⟩), hocd, hocv⟩
  clear hB1 hB2 X' T' HT HT₁ HT₂ hq C
  refine enterL (binds := []) F N X Tp hq2 hrec (by dsimp only; omega) (by exact rfl) (fun _ h => nomatch h) ?_ rfl rfl rfl (by decide)
  clear X Tp
  intro L'' h'' X' T' back F' N'
  walk1
  walk1
  refine nameX_H F' rfl hc2 d2 ?_
  walk1
  refine nameX_H F' rfl hc1 d1 ?_
  (repeat' (first | (k_unfold; (try dsimp only)) | ((((fail_if_success (with_reducible show wpAny _ _ (exec (Stmt.While _ _ _ _) _) _ _ _)); (fail_if_success (with_reducible show wpAny _ _ (exec (Stmt.For _ _ _ _ _) _) _ _ _)))); (first | walk1 | (dsimp only; walk1)))))
  exact ret _ _ _ _ _ (Back.fr back (by assumption)) (Back.cons back (by assumption) (by assumption) (.head _))
end

-- part prog
theorem reset_prog : True := by w_top off; trivial
section
variable {M : Model} {A : Around} {E : Value → Shared → Prop} {s : Shared} {g : Heap} {L a : Addr} {m mg mb : Str → Option Value} {cn : Str} {cs : Scope} {cl : List (Str × Addr)} {own T : List (Addr × Obj)}
  {loose : List Str} {mean : ExcName → Option Value} {name : Str} {params : Arguments} {body : FuncBody} {scope : Scope} {pos : Pos} {firstLine : Nat} {clos : List (Str × Addr)}
/-- a nested def with defaults, of a def whose table is carried along -/
theorem def_T {Q : Value → Shared → Prop} {dV : Value} {P c₀ : Addr} {ql : Pos → Str} {qual : Str} (hql : ∀ pos' : Pos, (pos.line : Int) = pos'.line → (pos.col : Int) = pos'.col → ql pos' = qual) (hgP : mainGlobals ≠ P)
    (F : Fr g L s.heap m) (N : News g L s.heap (own ++ T)) (H : TabG P ql T) (Tp : Top topProg loose mean mg mb g) (C : CodeHd g c₀ P) (hoff : ∀ p ∈ own, p.1 ≠ P)
    (hcl : closureFor scope (envX cn cs L a (.ref c₀) cl) = pure clos)
    (h : ∀ f c' ctv doc h' tk T', TabG P ql T' → TleP P T T' → HasCodeQ P qual T' c' → Fr g L h' m → News g L h' ((f, kdv_obj name qual params body scope clos dV doc ((mg "__name__").getD .none) c' ctv) :: (own ++ T')) → Q (.ref f) { s with heap := h', toks := tk }) :
    wpAny M A (makeTail name qual params body scope (envX cn cs L a (.ref c₀) cl) dV .none none pos firstLine) Q E s := by
  obtain ⟨ps, hps, ht, hcodes⟩ := H.tab
  have hm := N _ (List.mem_append_right own hps)
  have hgs := Tp.g.keeps F.keep
  obtain ⟨bm, ob, b1, b2, b3, b4, b5, b6⟩ := Tp.bmain
  have hbP : bm ≠ P := fun q => by
    have e := F.keep _ _ b3
    rw [q, hm.1] at e; cases e; cases b4
  have hbG : bm ≠ mainGlobals := fun q => by
    obtain ⟨o, es, ep, e, hd, _⟩ := Tp.g
    rw [q, e] at b3; cases b3; rw [hd] at b6; cases b6
  have hb : s.heap.BuiltinsAt mg P := ⟨bm, ob, b1, b2, hbG, hbP, F.keep _ _ b3, b4, b5, b6⟩
  have fresh : ∀ b, L < b → g.get? b = none := fun b hb => Heap.get?_none_of_le (Nat.le_trans F.above (Nat.le_of_lt hb))
  have hLs : L < s.heap.objs.size := F.ns.lt
  cases hf : codeAmong pos ps.toList with
  | some cv =>
    obtain ⟨c', rfl, hc'⟩ := hcodes _ _ hf
    rw [hql pos rfl rfl] at hc'
    refine kdv_makeTailHit (mg := mg) hcl rfl hgs rfl (C.keeps F.keep) hm.1 ht hf hb fun ctv doc h' tk hk hsz => ?_
    have hLf : L < h'.objs.size := Nat.lt_of_lt_of_le hLs hsz
    refine h h'.objs.size c' ctv doc _ tk T H (TleP.refl P T) hc' ⟨(F.ns.keeps hk).push _, fun b o e => Heap.get?_push_of_some _ (hk b o (F.keep b o e)), F.above⟩ fun p hp => ?_
    rcases List.mem_cons.mp hp with rfl | hp
    · exact ⟨Heap.get?_push_size _ rfl, Nat.ne_of_gt hLf, fresh _ hLf⟩
    · exact ⟨Heap.get?_push_of_some _ (hk _ _ (N p hp).1), (N p hp).2⟩
  | none =>
    refine kdv_makeTail (mg := mg) hcl rfl hgs rfl (C.keeps F.keep) hm.1 ht hf hgP hb fun c' ctv doc h' tk hx hge hlt hrec htb => ?_
    obtain ⟨_, hH, hTl, hHC, F₁, N₁⟩ := tab_grown hql F N H hps ht hcodes hoff hx hge hrec htb
    have hLf : L < h'.objs.size := Nat.lt_trans (Nat.lt_of_lt_of_le hLs hge) hlt
    refine h h'.objs.size c' ctv doc _ tk _ hH hTl hHC (F₁.push _) fun p hp => ?_
    rcases List.mem_cons.mp hp with rfl | hp
    · exact ⟨Heap.get?_push_size _ rfl, Nat.ne_of_gt hLf, fresh _ hLf⟩
    · exact ⟨Heap.get?_push_of_some _ (N₁ p hp).1, (N₁ p hp).2⟩
end
section
variable {w : World} {A : Around} {s : Shared} {Q E : Value → Shared → Prop} {K : Frag} {loose : List Str} {mean : ExcName → Option Value} {mg mb : Str → Option Value}
  {name qual : Str} {params : Arguments} {body : List Stmt} {scope : Scope} {cl : List (Str × Addr)} {dV doc pm ctv : Value} {c' f : Addr} {args : List Value} {binds : List (Str × Value)}
  {h₀ : Heap} {L₀ : Addr} {m₀ : Str → Option Value} {own T : List (Addr × Obj)}
/-- enter a closure's object, the table laid aside -/
theorem enterTX (F₀ : Fr h₀ L₀ s.heap m₀) (N₀ : News h₀ L₀ s.heap (own ++ T)) (X₀ : K.In h₀) (T₀ : Top topProg loose mean mg mb h₀) (hoff : ∀ p ∈ own, ∀ q ∈ T, p.1 ≠ q.1)
    (ho : s.heap.get? f = some (kdv_obj name qual params (.stmts body) scope cl dV doc pm c' ctv)) (hcd : s.heap.CodeRec (.ref c') qual) (hroom : A.depth < recursionLimit)
    (hbind : BindsTo s (kdv_fn name qual params (.stmts body) scope cl dV doc pm (.ref c') ctv) ⟨args, []⟩ binds) (hloc : ∀ y ∈ binds, scope.names.lookup y.1 = some .local)
    (h : ∀ L h₁, K.In (hideAll s.heap (T.map (·.1))) → Top topProg loose mean mg mb (hideAll s.heap (T.map (·.1))) → BackT (hideAll s.heap (T.map (·.1))) h₀ L₀ m₀ own →
      Fr (hideAll s.heap (T.map (·.1))) L h₁ (fun y => binds.reverse.lookup y) → News (hideAll s.heap (T.map (·.1))) L h₁ T →
      wpAny (model PR w) (A.deeper (envX qual scope L f (.ref c') cl)) (execs body (envX qual scope L f (.ref c') cl))
        (fun fl s' => Q (match fl with | .ret v => v | _ => .none) s') (fun _ _ => False)
        { s with heap := h₁, toks := s.toks + binds.length })
    (hco : scope.isCoroutine = false) (hgen : scope.isGenerator = false) (hk : scope.kind = .function)
    (hcell : ∀ x ∈ scope.names, x.2 ≠ .cell) : wpAny (model PR w) A (call (.ref f) args) Q E s := by
  have NT : News h₀ L₀ s.heap T := fun p hp => N₀ p (List.mem_append_right _ hp)
  have st := hide_stays F₀ NT
  refine wpAny_call (codeAny_call_def (fd := kdv_fn name qual params (.stmts body) scope cl dV doc pm (.ref c') ctv) (body := body) (binds := binds) hroom ho rfl (T₀.keeps F₀.keep).nolimit hcd rfl hbind hcell hloc (fun h₁ hns hk₁ => ?_) hco hgen hk)
  exact wpAny_mono (h s.heap.objs.size h₁ (X₀.keeps st) (T₀.keeps st) (backT_of F₀ N₀ hoff) ⟨hns, fun b o e => hk₁ b o (of_hideAll _ e), Nat.le_of_eq (hideAll_size _ _)⟩
    (fun p hp => ⟨hk₁ _ _ (NT p hp).1, Nat.ne_of_lt (Heap.lt_size (NT p hp).1), hideAll_none _ (List.mem_map_of_mem hp)⟩)) (fun fl s' hl => hl) fun _ _ x => x.elim
end

/-- a function of a text and a place that hands back an int -/
noncomputable def FunOK (w : World) (loose : List Str) (mean : ExcName → Option Value) (mg mb : Str → Option Value) (B : List (Addr × Obj)) (f : Addr) (pre : Str → Nat → Prop) (fn : List Nat → Nat → Int) : Prop :=
  (∃ oc od fd sl, (f, (⟨oc, od, .func fd, sl⟩ : Obj)) ∈ B) ∧
  ∀ {dp un : Nat} {fr : Option (List Env)} {gd : Option (List Code)} {s : Shared} {Q E : Value → Shared → Prop} {h₀ : Heap} {L : Addr} {m : Str → Option Value} {news : List (Addr × Obj)} {x : Str} {a : Nat} {tx ta : Tok},
    Fr h₀ L s.heap m → News h₀ L s.heap news → (hd.heap_1 w.params).In h₀ → Top topProg loose mean mg mb h₀ → (∀ p ∈ B, s.heap.get? p.1 = some p.2) → x.length ≤ 64 → pre x a → dp + 3 < recursionLimit → RetI h₀ L m news s Q (fn (cs x) a) →
      wpAny (model PR w) (Ar dp fr gd un) (call (.ref f) [.str x tx, .int (a : Nat) ta]) Q E s
theorem FunOK.use {w : World} {loose : List Str} {mean : ExcName → Option Value} {mg mb : Str → Option Value} {B : List (Addr × Obj)} {f : Addr} {pre : Str → Nat → Prop} {fn : List Nat → Nat → Int} (h : FunOK w loose mean mg mb B f pre fn)
    {dp un : Nat} {fr : Option (List Env)} {gd : Option (List Code)} {s : Shared} {Q E : Value → Shared → Prop} {h₀ : Heap} {L : Addr} {m : Str → Option Value} {news : List (Addr × Obj)} {x : Str} {a : Nat} {tx ta : Tok}
    (F : Fr h₀ L s.heap m) (N : News h₀ L s.heap news) (X : (hd.heap_1 w.params).In h₀) (T : Top topProg loose mean mg mb h₀) (k : ∀ p ∈ B, h₀.get? p.1 = some p.2) (hx : x.length ≤ 64) (hp : pre x a) (hd : dp + 3 < recursionLimit) {v : Int} (hv : fn (cs x) a = v) (ret : RetI h₀ L m news s Q v) :
      wpAny (model PR w) (Ar dp fr gd un) (call (.ref f) [.str x tx, .int (a : Nat) ta]) Q E s := h.2 F N X T (fun p hp => F.keep _ _ (k p hp)) hx hp hd (hv ▸ ret)
theorem fnAt_up {q : Addr} {g h : Heap} (x : FnAt q g) (k : ∀ b o, g.get? b = some o → h.get? b = some o) : FnAt q h := let ⟨oc, od, fd, sl, e⟩ := x; ⟨oc, od, fd, sl, k _ _ e⟩
noncomputable def tokOf (args : List Value) (t₀ : Tok) : Tok := match args with
  | [_, .int _ t] => t
  | _ => t₀
/-- what a program's search hands back -/
noncomputable def SearchOK (w : World) (loose : List Str) (mean : ExcName → Option Value) (mg mb : Str → Option Value) (B : List (Addr × Obj)) (f : Addr) (opn : List Nat → Nat → Int) (clo : List Nat → Nat → Int) : Prop :=
  ∀ {dp un : Nat} {fr : Option (List Env)} {gd : Option (List Code)} {s : Shared} {Q E : Value → Shared → Prop} {h₀ : Heap} {L : Addr} {m : Str → Option Value} {own T : List (Addr × Obj)} {x : Str} {a : Nat} {args : List Value},
    Fr h₀ L s.heap m → News h₀ L s.heap (own ++ T) → (hd.heap_1 w.params).In h₀ → Top topProg loose mean mg mb h₀ → TabL T → (∀ p ∈ own, ∀ q ∈ T, p.1 ≠ q.1) →
    (∀ p ∈ B, (hideAll s.heap (T.map (·.1))).get? p.1 = some p.2) → x.length ≤ 64 → a ≤ (cs x).length → (∃ tx, (args = [.str x tx] ∧ a = 0) ∨ ∃ ta, args = [.str x tx, .int (a : Nat) ta]) → dp + 6 < recursionLimit →
    (opn (cs x) a < 0 → ∀ h' tk', Fr h₀ L h' m → News h₀ L h' (own ++ T) → Q .none { s with heap := h', toks := tk' }) →
    (∀ i : Nat, opn (cs x) a = i → ∀ q Hh T' h' tk', HitL w loose mean mg mb Hh T' q i (clo (cs x) i) → TabL T' → Tle T T' → Fr h₀ L h' m → News h₀ L h' ((Hh ++ own) ++ T') → (∀ p ∈ Hh ++ own, ∀ q ∈ T', p.1 ≠ q.1) → Q (.ref q) { s with heap := h', toks := tk' }) →
      wpAny (model PR w) (Ar dp fr gd un) (call (.ref f) args) Q E s
noncomputable def Prg (w : World) (loose : List Str) (mean : ExcName → Option Value) (mg mb : Str → Option Value) (g : Heap) (q : Addr) (opn : List Nat → Nat → Int) (clo : List Nat → Nat → Int) : Prop :=
  ∃ d f tk fd fo B, g.get? q = some (⟨.type "function", some d, .func fd, #[]⟩ : Obj) ∧ g.get? d = some (oneD w.params (Str.ofString "search") tk (.ref f)) ∧ (f, fo) ∈ B ∧ (∃ fdo, fo = (⟨.type "function", none, .func fdo, #[]⟩ : Obj)) ∧ (∀ p ∈ B, g.get? p.1 = some p.2) ∧ SearchOK w loose mean mg mb B f opn clo
theorem Prg.keeps {w : World} {loose : List Str} {mean : ExcName → Option Value} {mg mb : Str → Option Value} {g g' : Heap} {q : Addr} {opn clo : List Nat → Nat → Int} (x : Prg w loose mean mg mb g q opn clo) (k : g.StaysIn g') : Prg w loose mean mg mb g' q opn clo := by
  obtain ⟨d, f, tk, fd, fo, B, a, b, c, e, hB, r⟩ := x
  exact ⟨d, f, tk, fd, fo, B, k _ _ a, k _ _ b, c, e, fun p hp => k _ _ (hB p hp), r⟩
noncomputable abbrev qSearch : Str := Str.ofString "_law_program.<locals>.search"
noncomputable abbrev qLamP : Str := Str.ofString "_law_program.<locals>.<lambda>"
noncomputable def qlP (pos : Pos) : Str := if pos.line = 255 then qSearch else qLamP
noncomputable abbrev TabP (T : List (Addr × Obj)) : Prop := TabG 221 qlP T

--MACRO
local macro_rules | `(tactic| walk_at "eval Name") => `(tactic| ((with_reducible show wpAny _ _ (eval (Expr.Name _ _) (envX _ _ _ _ _ _)) _ _ _); k_dflt (refine' nameX_H ?F ?c ?v ?d ?_ ?k ?x; (case x => rfl); (case k => rfl); (case c => rfl); (case F => k_asm); (case v => assumption); (case d => assumption); k_whole)))
local macro_rules | `(tactic| walk_at "FnAt") => `(tactic| (exact fnAt_up (by assumption) (Fr.keep (by k_asm))))
local macro_rules | `(tactic| walk_at "callWith ref") => `(tactic| (k_dflt (refine' callWith_F ?k1 ?_; (case k1 => walk_at "FnAt"); k_whole)))
--END
section
variable {w : World} {dp un : Nat} {fr : Option (List Env)} {gd : Option (List Code)} {s : Shared} {Q E : Value → Shared → Prop} {loose : List Str} {mean : ExcName → Option Value} {mg mb : Str → Option Value} {h₀ : Heap} {L : Addr} {m : Str → Option Value} {own T : List (Addr × Obj)}
  (F : Fr h₀ L s.heap m) (N : News h₀ L s.heap (own ++ T)) (X : (hd.heap_1 w.params).In h₀) (Tp : Top topProg loose mean mg mb h₀) (HT : TabP T) (hoff : ∀ p ∈ own, ∀ q ∈ T, p.1 ≠ q.1) {fo fc : Addr} {Bo Bc : List (Addr × Obj)} {opn clo : List Nat → Nat → Int}
include F N X Tp HT hoff
set_option maxHeartbeats 1000000 in
theorem program_ok (hdp : dp + 1 < recursionLimit) (hO : FunOK w loose mean mg mb Bo fo (fun x a => a ≤ (cs x).length) opn) (hC : FunOK w loose mean mg mb Bc fc (fun x a => a < (cs x).length) clo)
    (hgood : ∀ l a (i : Nat), opn l a = i → i < l.length)
    (ret : ∀ q R T' h' tk', (∀ g : Heap, (∀ p ∈ R ++ T'.filter (fun p => p.1 != 221) ++ (Bo ++ Bc), g.get? p.1 = some p.2) → Prg w loose mean mg mb g q opn clo) → TabP T' → TleP 221 T T' → Fr h₀ L h' m → News h₀ L h' ((R ++ own) ++ T') → (∀ p ∈ R ++ own, ∀ q ∈ T', p.1 ≠ q.1) → (∀ p ∈ R, okO p.2 = true) → Q (.ref q) { s with heap := h', toks := tk' }) :
    wpAny (model PR w) (Ar dp fr gd un) (call (.ref 226) [.ref fo, .ref fc]) Q E s := by
  k_dflt (refine' enterTC F N X Tp hoff ?k6 ?k7 ?k8 ?k9 ?kB ?kD ?_ ?c2 ?c3 ?c4; (case k6 => k_is); (case k7 => k_is); (case k8 => (dsimp only; omega)); (case k9 => exact BindsTo.of_eq rfl); (case kB => exact rfl); (case kD => decide +kernel); (case c2 => exact rfl); (case c3 => exact rfl); (case c4 => exact rfl); k_whole)
  intro L' h₁ tk cells X' T' back st F' N' Y'
  obtain ⟨o1, o2, rfl, d1, d2⟩ := CellsAre.two Y'
  have C : CodeHd (hideAll s.heap (T.map (·.1))) 225 221 := codeHd_of_K X' (by kernel_rfl)
  clear F N X Tp Y' hoff
  replace d1 : o1.data = .cell (some (.ref fc)) := d1
  replace d2 : o2.data = .cell (some (.ref fo)) := d2
  simp only [List.cons_append, List.nil_append] at N'
  have hq1 : ((Str.ofString "_law_program" ++ ".<locals>." : Str) ++ "search" : Str) = qSearch := by decide +kernel
  have hq2 : ((Str.ofString "_law_program" ++ ".<locals>." : Str) ++ "<lambda>" : Str) = qLamP := by decide +kernel
  (repeat' (first | (k_unfold; (try dsimp only)) | ((((fail_if_success (with_reducible show wpAny _ _ (exec (Stmt.While _ _ _ _) _) _ _ _)); (fail_if_success (with_reducible show wpAny _ _ (exec (Stmt.For _ _ _ _ _) _) _ _ _)))); (first | walk1 | (dsimp only; walk1)))))
  clear F' N'
  rename Fr _ _ _ _ => F'
  rename News _ _ _ _ => N'
  show wpAny _ _ (makeTail _ ((Str.ofString "_law_program" ++ ".<locals>." : Str) ++ "search" : Str) _ _ _ _ _ _ _ _ _) _ _ _
  rw [hq1]
  have off3 := fun {p : Addr × Obj} hp ho => off214 (p := p) N' HT (fun p hp => .tail _ (.tail _ (.tail _ hp))) hp ho
  refine def_T (ql := qlP) (qual := qSearch) ?_ (by decide) (own := [_, _, _]) F' N' HT T' C ?_ rfl ?_
  · intro pos' e1 e2
    unfold qlP; rw [if_pos (Int.ofNat.inj e1).symm]
  · exact List.forall_mem_cons.mpr ⟨off3 (.head _) rfl, List.forall_mem_cons.mpr ⟨off3 (.tail _ (.head _)) (okO_cell d1), List.forall_mem_cons.mpr ⟨off3 (.tail _ (.tail _ (.head _))) (okO_cell d2), fun _ h => nomatch h⟩⟩⟩
  clear F' N' off3
  intro f c' ctv doc h' tk' T₁ HT₁ le₁ hc₁ F' N'
  simp only [List.cons_append, List.nil_append] at N'
  (repeat' (first | (k_unfold; (try dsimp only)) | ((((fail_if_success (with_reducible show wpAny _ _ (exec (Stmt.While _ _ _ _) _) _ _ _)); (fail_if_success (with_reducible show wpAny _ _ (exec (Stmt.For _ _ _ _ _) _) _ _ _)))); (first | walk1 | (dsimp only; walk1)))))
  rename Fr _ _ _ _ => F'
  rename News _ _ _ _ => N'
  refine kla_eval rfl ?_
  show wpAny _ _ (makeFunction _ ((Str.ofString "_law_program" ++ ".<locals>." : Str) ++ "<lambda>" : Str) _ _ _ _ _ _ _ _ _) _ _ _
  rw [hq2]
  have off4 := fun {p : Addr × Obj} hp ho => off214 (p := p) N' HT₁ (fun p hp => .tail _ (.tail _ (.tail _ (.tail _ hp)))) hp ho
  refine lam_T (ql := qlP) (qual := qLamP) ?_ (by decide) (own := [_, _, _, _]) F' N' HT₁ T' C ?_ rfl ?_
  · intro pos' e1 e2
    unfold qlP; rw [if_neg (fun z => by have := Int.ofNat.inj e1; rw [z] at this; cases this)]
  · exact List.forall_mem_cons.mpr ⟨off4 (.head _) rfl, List.forall_mem_cons.mpr ⟨off4 (.tail _ (.head _)) rfl, List.forall_mem_cons.mpr ⟨off4 (.tail _ (.tail _ (.head _))) (okO_cell d1), List.forall_mem_cons.mpr ⟨off4 (.tail _ (.tail _ (.tail _ (.head _)))) (okO_cell d2), fun _ h => nomatch h⟩⟩⟩⟩
  clear F' N' off4
  intro q c2 ctv2 h2 tk2 T₂ HT₂ le₂ hc₂ F' N'
  simp only [List.cons_append, List.nil_append] at N'
  (repeat' (first | (k_unfold; (try dsimp only)) | ((((fail_if_success (with_reducible show wpAny _ _ (exec (Stmt.While _ _ _ _) _) _ _ _)); (fail_if_success (with_reducible show wpAny _ _ (exec (Stmt.For _ _ _ _ _) _) _ _ _)))); (first | walk1 | (dsimp only; walk1)))))
  rename Fr _ _ _ _ => F'
  rename News _ _ _ _ => N'
  have le₁₂ := le₁.trans le₂
  have hc₁ := hc₁.le le₂
  refine set_fn (own₁ := []) F' N' fn_search ?_ ?_
  · refine List.forall_mem_cons.mpr ⟨fun z => ?_, List.forall_mem_cons.mpr ⟨fun z => ?_, List.forall_mem_cons.mpr ⟨fun z => ?_, List.forall_mem_cons.mpr ⟨fun z => ?_, fun p hp z => ?_⟩⟩⟩⟩
    · have z := congrArg (fun o : Obj => match o.data with | .func fd => (match fd.body with | .expr _ => true | _ => false) | _ => false) z; cases z
    · have z := congrArg Obj.data z; cases z
    · have z := congrArg Obj.data z; rw [show (_, o1).2 = o1 from rfl, d1] at z; cases z
    · have z := congrArg Obj.data z; rw [show (_, o2).2 = o2 from rfl, d2] at z; cases z
    · have := HT₂.bad p hp; rw [z] at this; cases this
  clear F' N'
  intro d t h3 tk3 F' N' _
  simp only [List.nil_append] at N'
  (repeat' (first | (k_unfold; (try dsimp only)) | ((((fail_if_success (with_reducible show wpAny _ _ (exec (Stmt.While _ _ _ _) _) _ _ _)); (fail_if_success (with_reducible show wpAny _ _ (exec (Stmt.For _ _ _ _ _) _) _ _ _)))); (first | walk1 | (dsimp only; walk1)))))
  rename Fr _ _ _ _ => F'
  rename News _ _ _ _ => N'
  have N'' : News _ L' h3 ([_, _, _, _, _, _] ++ T₂) := N'
  obtain ⟨FR, NR, OF⟩ := back.out F' N'' (fun _ hp => hp)
  refine ret q _ T₂ h3 _ ?hP HT₂ le₁₂ FR (news_perm NR) (off_perm NR HT₂ ?hH OF) ?hH
  case hH => exact List.forall_mem_cons.mpr ⟨rfl, List.forall_mem_cons.mpr ⟨rfl, List.forall_mem_cons.mpr ⟨rfl, List.forall_mem_cons.mpr ⟨rfl, List.forall_mem_cons.mpr ⟨okO_cell d1, List.forall_mem_cons.mpr ⟨okO_cell d2, fun _ h => nomatch h⟩⟩⟩⟩⟩⟩
  clear ret FR NR OF N'' N' F' back
  clear X' T' C st HT HT₁ HT₂
  intro g hB
  refine ⟨d, f, t, _, _, _, hB _ (List.mem_append_left _ (List.mem_append_left _ (.tail _ (.head _)))), hB _ (List.mem_append_left _ (List.mem_append_left _ (.head _))), List.mem_append_left _ (List.mem_append_left _ (.tail _ (.tail _ (.head _)))), ⟨_, rfl⟩, hB, ?_⟩
  clear hB
  unfold SearchOK
  intro dp un fr gd s Q E h₀ L m own T x a args F N X Tp HT hoff hB hx ha hargs hdp retN retH
  have hB1 := fun p hp => hB p (List.mem_append_left _ (List.mem_append_left _ hp))
  have hBo := fun p hp => hB p (List.mem_append_right _ (List.mem_append_left Bc hp))
  have hBc := fun p hp => hB p (List.mem_append_right _ (List.mem_append_right Bo hp))
  obtain ⟨hne, oc, vs, tq, hoc, hocd, hocv⟩ := hc₁
  have hocB := hB (c', oc) (List.mem_append_left _ (List.mem_append_right _ (List.mem_filter.mpr ⟨hoc, by simpa using hne⟩)))
  have hf := hB1 _ (List.Mem.tail _ (List.Mem.tail _ (List.Mem.head _)))
  have htu := hB1 _ (List.Mem.tail _ (List.Mem.tail _ (List.Mem.tail _ (List.Mem.head _))))
  have hcc := hB1 _ (List.Mem.tail _ (List.Mem.tail _ (List.Mem.tail _ (List.Mem.tail _ (List.Mem.head _)))))
  have hco := hB1 _ (List.Mem.tail _ (List.Mem.tail _ (List.Mem.tail _ (List.Mem.tail _ (List.Mem.tail _ (List.Mem.head _))))))
  clear hB hB1
  dsimp only at hf htu hcc hco hocB
  have hrec : s.heap.CodeRec (.ref c') qSearch := ⟨c', oc, vs, tq, rfl, of_hideAll _ hocB, hocd, hocv⟩
  have hfo : FnAt fo (hideAll s.heap (T.map (·.1))) := by obtain ⟨oc, od, fd, sl, hm⟩ := hO.1; exact ⟨oc, od, fd, sl, hBo _ hm⟩
  have hfc : FnAt fc (hideAll s.heap (T.map (·.1))) := by obtain ⟨oc, od, fd, sl, hm⟩ := hC.1; exact ⟨oc, od, fd, sl, hBc _ hm⟩
  obtain ⟨tx, hargs⟩ := hargs
  have hf' := of_hideAll _ hf
  have htu' := of_hideAll _ htu
  refine enterTX (binds := [(Str.ofString "chars", .str x tx), (Str.ofString "begin", .int (a : Nat) (tokOf args tk))]) F N X Tp hoff hf' hrec (by dsimp only; omega) ?hb ?hl ?_ rfl rfl rfl (by decide)
  case hb =>
    rcases hargs with ⟨rfl, rfl⟩ | ⟨ta, rfl⟩
    · exact BindsTo.of_defaults rfl htu' rfl rfl rfl
    · first | exact BindsTo.of_eq rfl | exact BindsTo.of_defaults rfl htu' rfl rfl rfl
  case hl => exact locs rfl
  clear hf' htu' hrec hf htu X Tp F N
  intro L' h₁ X Tp back F' N'
  (repeat' (first | (k_unfold; (try dsimp only)) | ((((fail_if_success (with_reducible show wpAny _ _ (exec (Stmt.While _ _ _ _) _) _ _ _)); (fail_if_success (with_reducible show wpAny _ _ (exec (Stmt.For _ _ _ _ _) _) _ _ _)))); (first | walk1 | (dsimp only; walk1)))))
  have hcase : opn (cs x) a < 0 ∨ ∃ i : Nat, opn (cs x) a = i := by
    by_cases z : opn (cs x) a < 0
    · exact .inl z
    · exact .inr ⟨(opn (cs x) a).toNat, by omega⟩
  rcases hcase with hn | ⟨i, hi⟩
  · refine hO.use F' N' X Tp hBo hx ha (by dsimp only [Around.deeper, Around.in1, Around.mark]; omega) rfl ?_
    clear F' N'
    intro t9 h9 tk9 F' N'
    (repeat' (first | (k_unfold; (try dsimp only)) | ((((fail_if_success (with_reducible show wpAny _ _ (exec (Stmt.While _ _ _ _) _) _ _ _)); (fail_if_success (with_reducible show wpAny _ _ (exec (Stmt.For _ _ _ _ _) _) _ _ _)))); (first | walk1 | (dsimp only; walk1)))))
    rename Fr _ _ _ _ => F'
    rename News _ _ _ _ => N'
    obtain ⟨FR, NR, _⟩ := back.out F' N' (fun _ hp => hp)
    exact retN hn _ _ FR fun p hp => NR p (List.mem_append.mpr (List.mem_append.mp hp).symm)
  · refine hO.use F' N' X Tp hBo hx ha (by dsimp only [Around.deeper, Around.in1, Around.mark]; omega) hi ?_
    clear F' N'
    intro t9 h9 tk9 F' N'
    (repeat' (first | (k_unfold; (try dsimp only)) | ((((fail_if_success (with_reducible show wpAny _ _ (exec (Stmt.While _ _ _ _) _) _ _ _)); (fail_if_success (with_reducible show wpAny _ _ (exec (Stmt.For _ _ _ _ _) _) _ _ _)))); (first | walk1 | (dsimp only; walk1)))))
    rename Fr _ _ _ _ => F'
    rename News _ _ _ _ => N'
    refine hC.use F' N' X Tp hBc hx (hgood _ _ _ hi) (by dsimp only [Around.deeper, Around.in1, Around.mark]; omega) rfl ?_
    clear F' N'
    intro t9 h9 tk9 F' N'
    (repeat' (first | (k_unfold; (try dsimp only)) | ((((fail_if_success (with_reducible show wpAny _ _ (exec (Stmt.While _ _ _ _) _) _ _ _)); (fail_if_success (with_reducible show wpAny _ _ (exec (Stmt.For _ _ _ _ _) _) _ _ _)))); (first | walk1 | (dsimp only; walk1)))))
    rename Fr _ _ _ _ => F'
    rename News _ _ _ _ => N'
    refine hit_ok (own := []) F' N' X Tp HT (fun _ h => nomatch h) (by dsimp only [Around.deeper, Around.in1, Around.mark]; omega) ?_
    clear F' N'
    intro q9 Hh T' h9 tk9 hL HT' le' F' N' _
    (repeat' (first | (k_unfold; (try dsimp only)) | ((((fail_if_success (with_reducible show wpAny _ _ (exec (Stmt.While _ _ _ _) _) _ _ _)); (fail_if_success (with_reducible show wpAny _ _ (exec (Stmt.For _ _ _ _ _) _) _ _ _)))); (first | walk1 | (dsimp only; walk1)))))
    rename Fr _ _ _ _ => F'
    rename News _ _ _ _ => N'
    simp only [List.append_nil] at N'
    obtain ⟨FR, NR, OF⟩ := back.out F' N' (fun _ hp => hp)
    exact retH i hi q9 Hh T' h9 _ hL HT' le' FR (news_perm NR) (off_perm NR HT' hL.ok OF)
end

-- part srev
theorem reset_srev : True := by w_top off; trivial
noncomputable def nxt (opn clo : List Nat → Nat → Int) (l : List Nat) (a : Nat) : Option (Nat × Nat) := if opn l a < 0 then none else some ((opn l a).toNat, (clo l (opn l a).toNat).toNat)
noncomputable def srl (nx : Nat → Option (Nat × Nat)) (col : Nat) : Nat → Nat × Nat → Option (Nat × Nat) → Option (Nat × Nat)
  | 0, _, f => f
  | n + 1, c, f => if c.1 < col ∧ c.2 ≤ col then (match nx c.2 with | none => some c | some c' => srl nx col n c' (some c)) else f
/-- what search_reverse finds -/
noncomputable def sr (opn clo : List Nat → Nat → Int) (l : List Nat) (col : Nat) : Option (Nat × Nat) := match nxt opn clo l 0 with
  | none => none
  | some c => srl (nxt opn clo l) col (l.length + 1) c none
structure Good (opn clo : List Nat → Nat → Int) : Prop where
  o : ∀ l a (i : Nat), a ≤ l.length → opn l a = i → a ≤ i ∧ i < l.length
  c : ∀ l a (i : Nat), a ≤ l.length → opn l a = i → ∃ j : Nat, clo l i = j ∧ i < j ∧ j ≤ l.length
theorem Good.nx {opn clo : List Nat → Nat → Int} (G : Good opn clo) {l : List Nat} {a i : Nat} (ha : a ≤ l.length) (hi : opn l a = i) : ∃ j : Nat, clo l i = j ∧ nxt opn clo l a = some (i, j) ∧ a ≤ i ∧ i < j ∧ j ≤ l.length := by
  obtain ⟨h1, h2⟩ := G.o l a i ha hi
  obtain ⟨j, e, h3, h4⟩ := G.c l a i ha hi
  refine ⟨j, e, ?_, h1, h3, h4⟩
  unfold nxt
  rw [if_neg (by omega), hi]
  simp [e]
theorem nxt_none {opn clo : List Nat → Nat → Int} {l : List Nat} {a : Nat} (h : opn l a < 0) : nxt opn clo l a = none := if_pos h
/-- what found is bound to -/
noncomputable def FndV (w : World) (loose : List Str) (mean : ExcName → Option Value) (mg mb : Str → Option Value) (Hf T : List (Addr × Obj)) (fd : Option (Nat × Nat)) (v : Value) : Prop := match fd with
  | none => v = .none
  | some c => ∃ q : Addr, v = .ref q ∧ HitL w loose mean mg mb Hf T q c.1 c.2
theorem srl_step {nx : Nat → Option (Nat × Nat)} {col n : Nat} {c : Nat × Nat} {f : Option (Nat × Nat)} (h : c.1 < col ∧ c.2 ≤ col) {c' : Nat × Nat} (hn : nx c.2 = some c') : srl nx col (n + 1) c f = srl nx col n c' (some c) := by
  rw [srl, if_pos h, hn]
theorem srl_last {nx : Nat → Option (Nat × Nat)} {col n : Nat} {c : Nat × Nat} {f : Option (Nat × Nat)} (h : c.1 < col ∧ c.2 ≤ col) (hn : nx c.2 = none) : srl nx col (n + 1) c f = some c := by
  rw [srl, if_pos h, hn]
theorem srl_stop {nx : Nat → Option (Nat × Nat)} {col n : Nat} {c : Nat × Nat} {f : Option (Nat × Nat)} (h : ¬ (c.1 < col ∧ c.2 ≤ col)) : srl nx col n c f = f := by
  cases n with
  | zero => rfl
  | succ n => rw [srl, if_neg h]
section
variable {w : World} {dp un : Nat} {fr : Option (List Env)} {gd : Option (List Code)} {s : Shared} {Q E : Value → Shared → Prop} {loose : List Str} {mean : ExcName → Option Value} {mg mb : Str → Option Value} {h₀ : Heap} {L : Addr} {m : Str → Option Value} {own T : List (Addr × Obj)}
  (F : Fr h₀ L s.heap m) (N : News h₀ L s.heap (own ++ T)) (X : (hd.heap_1 w.params).In h₀) (Tp : Top topProg loose mean mg mb h₀) (HT : TabL T) (hoff : ∀ p ∈ own, ∀ q ∈ T, p.1 ≠ q.1) {pr : Addr} {opn clo : List Nat → Nat → Int} {x : Str} {col : Nat} {tx tc : Tok} (hx : x.length ≤ 64)
include F N X Tp HT hoff hx
set_option maxHeartbeats 8000000 in
theorem search_reverse_ok (G : Good opn clo) (hP : Prg w loose mean mg mb (hideAll s.heap (T.map (·.1))) pr opn clo) (hcol : col ≤ 64) (hdp : dp + 8 < recursionLimit)
    (retN : sr opn clo (cs x) col = none → ∀ T' h' tk', TabL T' → Tle T T' → Fr h₀ L h' m → News h₀ L h' (own ++ T') → (∀ p ∈ own, ∀ q ∈ T', p.1 ≠ q.1) → Q .none { s with heap := h', toks := tk' })
    (retH : ∀ i j : Nat, sr opn clo (cs x) col = some (i, j) → ∀ q Hh T' h' tk', HitL w loose mean mg mb Hh T' q i j → TabL T' → Tle T T' → Fr h₀ L h' m → News h₀ L h' ((Hh ++ own) ++ T') → (∀ p ∈ Hh ++ own, ∀ q ∈ T', p.1 ≠ q.1) → Q (.ref q) { s with heap := h', toks := tk' }) :
    wpAny (model PR w) (Ar dp fr gd un) (call (.ref 35) [.ref pr, .str x tx, .int (col : Nat) tc]) Q E s := by
  k_dflt (refine' enterT F N X Tp hoff ?k6 ?k7 ?k8 ?k9 ?kB ?_ ?c2 ?c3 ?c4 ?c5; (case k6 => k_is); (case k7 => k_is); (case k8 => (dsimp only; omega)); (case k9 => exact BindsTo.of_eq rfl); (case c5 => decide); (case kB => exact locs rfl); (case c2 => exact rfl); (case c3 => exact rfl); (case c4 => exact rfl); k_whole)
  clear F N X Tp hoff
  intro L' h₁ X Tp back _ F' N'
  obtain ⟨d, f, tk, fd, fo, B, hpq, hpd, hfB, ⟨fdo, rfl⟩, hB, hS⟩ := hP
  have hfAt : FnAt f (hideAll s.heap (T.map (·.1))) := ⟨_, _, _, _, hB _ hfB⟩
  have hlen := cs_len x
  have fin : ∀ (Hf T₁ : List (Addr × Obj)) (fd : Option (Nat × Nat)) (fv : Value) (L₉ : Addr) (mm : Str → Option Value) (h' : Heap) (tk' : Nat), Fr (hideAll s.heap (T.map (·.1))) L₉ h' mm → News (hideAll s.heap (T.map (·.1))) L₉ h' (Hf ++ T₁) → TabL T₁ → Tle T T₁ → FndV w loose mean mg mb Hf T₁ fd fv → (∀ p ∈ Hf, okO p.2 = true) → fd = sr opn clo (cs x) col → Q fv { s with heap := h', toks := tk' } := by
    intro Hf T₁ fd fv L₉ mm h' tk' F' N' HT₁ le₁ hF hok hs
    cases fd with
    | none =>
      have N₀ : News (hideAll s.heap (T.map (·.1))) L₉ h' T₁ := fun p hp => N' p (List.mem_append_right _ hp)
      obtain ⟨FR, NR, OF⟩ := back.out F' N₀ (fun _ hp => hp)
      rw [show fv = .none from hF]
      exact retN hs.symm T₁ _ _ HT₁ le₁ FR (fun p hp => NR p (List.mem_append.mpr (List.mem_append.mp hp).symm)) fun p hp q hq => OF q hq p hp
    | some c =>
      obtain ⟨q, rfl, hH⟩ := hF
      obtain ⟨FR, NR, OF⟩ := back.out F' N' (fun _ hp => hp)
      exact retH c.1 c.2 hs.symm q Hf T₁ _ _ hH HT₁ le₁ FR (news_perm NR) (off_perm NR HT₁ hok OF)
  clear retN retH
  (repeat' (first | (k_unfold; (try dsimp only)) | ((((((fail_if_success (with_reducible show wpAny _ _ (exec (Stmt.While _ _ _ _) _) _ _ _)); (fail_if_success (with_reducible show wpAny _ _ (exec (Stmt.For _ _ _ _ _) _) _ _ _)))); (fail_if_success (with_reducible show wpAny _ _ (getMethod (Value.ref _) _ _) _ _ _)); (fail_if_success (with_reducible show wpAny _ _ (truthy (Value.ref _)) _ _ _)); (fail_if_success (with_reducible show wpAny _ _ (call (Value.ref _) _) _ _ _)))); (first | walk1 | (dsimp only; walk1)))))
  refine fn_getMethod (F'.keep _ _ hpq) (oneD_ns (F'.keep _ _ hpd)) (if_pos rfl) fn_search rfl ?_
  intro tk1
  dsimp only
  (repeat' (first | (k_unfold; (try dsimp only)) | ((((((fail_if_success (with_reducible show wpAny _ _ (exec (Stmt.While _ _ _ _) _) _ _ _)); (fail_if_success (with_reducible show wpAny _ _ (exec (Stmt.For _ _ _ _ _) _) _ _ _)))); (fail_if_success (with_reducible show wpAny _ _ (getMethod (Value.ref _) _ _) _ _ _)); (fail_if_success (with_reducible show wpAny _ _ (truthy (Value.ref _)) _ _ _)); (fail_if_success (with_reducible show wpAny _ _ (call (Value.ref _) _) _ _ _)))); (first | walk1 | (dsimp only; walk1)))))
  rename Fr _ _ _ _ => F'
  rename News _ _ _ _ => N'
  refine hS (own := []) (a := 0) F' N' X Tp HT (fun _ h => nomatch h) (fun p hp => ?_) hx (Nat.zero_le _) ⟨_, .inl ⟨rfl, rfl⟩⟩ (by dsimp only [Around.deeper, Around.in1, Around.mark]; omega) ?_ ?_
  · exact hide_stays F' N' _ _ (hB p hp)
  · clear F' N'
    intro hn h9 tk9 F' N'
    (repeat' (first | (k_unfold; (try dsimp only)) | ((((((fail_if_success (with_reducible show wpAny _ _ (exec (Stmt.While _ _ _ _) _) _ _ _)); (fail_if_success (with_reducible show wpAny _ _ (exec (Stmt.For _ _ _ _ _) _) _ _ _)))); (fail_if_success (with_reducible show wpAny _ _ (getMethod (Value.ref _) _ _) _ _ _)); (fail_if_success (with_reducible show wpAny _ _ (truthy (Value.ref _)) _ _ _)); (fail_if_success (with_reducible show wpAny _ _ (call (Value.ref _) _) _ _ _)))); (first | walk1 | (dsimp only; walk1)))))
    rename Fr _ _ _ _ => F'
    rename News _ _ _ _ => N'
    exact fin [] T none .none _ _ _ _ F' N' HT (Tle.refl T) rfl (fun _ h => nomatch h) (by unfold sr; rw [nxt_none hn])
  · clear F' N'
    intro i hi q Hm T' h9 tk9 hM HT' le' F' N' off'
    obtain ⟨j, ej, enx, b1, b2, b3⟩ := G.nx (Nat.zero_le _) hi
    rw [ej] at hM
    simp only [List.append_nil] at N' off'
    (repeat' (first | (k_unfold; (try dsimp only)) | ((((((fail_if_success (with_reducible show wpAny _ _ (exec (Stmt.While _ _ _ _) _) _ _ _)); (fail_if_success (with_reducible show wpAny _ _ (exec (Stmt.For _ _ _ _ _) _) _ _ _)))); (fail_if_success (with_reducible show wpAny _ _ (getMethod (Value.ref _) _ _) _ _ _)); (fail_if_success (with_reducible show wpAny _ _ (truthy (Value.ref _)) _ _ _)); (fail_if_success (with_reducible show wpAny _ _ (call (Value.ref _) _) _ _ _)))); (first | walk1 | (dsimp only; walk1)))))
    rename Fr _ _ _ _ => F'
    rename News _ _ _ _ => N'
    obtain ⟨d1, f1, tk1', fd1, g1, g2, g3, B1, S1, kB1⟩ := hM.use (fun p hp => (N' p (List.mem_append_left _ hp)).1) (fun p hp => (N' p (List.mem_append_right _ hp)).1)
    refine fn_truthy g1 ?_
    clear g1 g2 g3 kB1 S1
    (repeat' (first | (k_unfold; (try dsimp only)) | ((((((fail_if_success (with_reducible show wpAny _ _ (exec (Stmt.While _ _ _ _) _) _ _ _)); (fail_if_success (with_reducible show wpAny _ _ (exec (Stmt.For _ _ _ _ _) _) _ _ _)))); (fail_if_success (with_reducible show wpAny _ _ (getMethod (Value.ref _) _ _) _ _ _)); (fail_if_success (with_reducible show wpAny _ _ (truthy (Value.ref _)) _ _ _)); (fail_if_success (with_reducible show wpAny _ _ (call (Value.ref _) _) _ _ _)))); (first | walk1 | (dsimp only; walk1)))))
    rename Fr _ _ _ _ => F'
    rename News _ _ _ _ => N'
    obtain ⟨d1, f1, tk1', fd1, g1, g2, g3, B1, S1, kB1⟩ := hM.use (fun p hp => (N' p (List.mem_append_left _ hp)).1) (fun p hp => (N' p (List.mem_append_right _ hp)).1)
    refine fn_getMethod g1 (oneD_ns g2) (if_pos rfl) fn_span rfl ?_
    intro tk2
    dsimp only
    refine callWith_F0 g3 ?_
    refine S1 F' N' X Tp kB1 (by dsimp only [Around.deeper, Around.in1, Around.mark]; omega) ?_
    clear F' N' g1 g2 g3 kB1
    intro a t1 t2 h10 tk10 F' N'
    obtain ⟨N', na⟩ := N'
    (repeat' (first | (k_unfold; (try dsimp only)) | ((((((fail_if_success (with_reducible show wpAny _ _ (exec (Stmt.While _ _ _ _) _) _ _ _)); (fail_if_success (with_reducible show wpAny _ _ (exec (Stmt.For _ _ _ _ _) _) _ _ _)))); (fail_if_success (with_reducible show wpAny _ _ (getMethod (Value.ref _) _ _) _ _ _)); (fail_if_success (with_reducible show wpAny _ _ (truthy (Value.ref _)) _ _ _)); (fail_if_success (with_reducible show wpAny _ _ (call (Value.ref _) _) _ _ _)))); (first | walk1 | (dsimp only; walk1)))))
    rename News _ _ _ _ => N'
    have N₁ : News _ L' _ ((Hm ++ []) ++ T') := fun p hp => N' p (List.mem_cons_of_mem _ (by simpa using hp))
    clear N' na S1
    rename Fr _ _ _ _ => F₁
    refine While_inv2 (fun n m₁ news₁ => ∃ (ci cj : Nat) (q : Addr) (Hm Hf T₁ : List (Addr × Obj)) (fd : Option (Nat × Nat)) (fv : Value) (t1 t2 t3 t4 : Tok), news₁ = (Hm ++ Hf) ++ T₁ ∧ TabL T₁ ∧ Tle T T₁ ∧ HitL w loose mean mg mb Hm T₁ q ci cj ∧ FndV w loose mean mg mb Hf T₁ fd fv ∧
        (∀ p ∈ Hm ++ Hf, okO p.2 = true) ∧ ci < cj ∧ cj ≤ (cs x).length ∧ srl (nxt opn clo (cs x)) col n (ci, cj) fd = sr opn clo (cs x) col ∧ (cs x).length + 1 ≤ n + cj ∧
        m₁ (Str.ofString "prog") = some (.ref pr) ∧ m₁ (Str.ofString "chars") = some (.str x t3) ∧ m₁ (Str.ofString "col") = some (.int (col : Nat) t4) ∧ m₁ (Str.ofString "m") = some (.ref q) ∧ m₁ (Str.ofString "found") = some fv ∧ m₁ (Str.ofString "i") = some (.int (ci : Nat) t1) ∧ m₁ (Str.ofString "j") = some (.int (cj : Nat) t2))
      F₁ N₁ ⟨i, j, q, Hm, [], T', none, .none, _, _, _, _, rfl, HT', le', hM, rfl, by simpa using hM.ok, b2, b3, by unfold sr; rw [enx], by omega, rfl, rfl, rfl, rfl, rfl, rfl, rfl⟩ ?_
    clear F₁ N₁ hi HT' le' hM ej enx b1 b2 b3 off' a t1 t2 tk2
    rintro n m₁ news₁ h₁ tk₁ F₁ N₁ ⟨ci, cj, q, Hm, Hf, T₁, fd, fv, t1, t2, t3, t4, rfl, HT₁, le₁, hM, hF, hok, b1, b2, hsr, hfu, e1, e2, e3, e4, e5, e6, e7⟩
    have F₂ := nam7 F₁ e1 e2 e3 e4 e5 e6 e7
    clear F₁ e1 e2 e3 e4 e5 e6 e7
    (repeat' (first | (k_unfold; (try dsimp only)) | ((((((fail_if_success (with_reducible show wpAny _ _ (exec (Stmt.While _ _ _ _) _) _ _ _)); (fail_if_success (with_reducible show wpAny _ _ (exec (Stmt.For _ _ _ _ _) _) _ _ _)))); (fail_if_success (with_reducible show wpAny _ _ (getMethod (Value.ref _) _ _) _ _ _)); (fail_if_success (with_reducible show wpAny _ _ (truthy (Value.ref _)) _ _ _)); (fail_if_success (with_reducible show wpAny _ _ (call (Value.ref _) _) _ _ _)))); (first | walk1 | (dsimp only; walk1)))))
    · exfalso; omega
    · rename (ci : Int) < _ => c1
      rename (cj : Int) ≤ _ => c2
      have hc : ci < col ∧ cj ≤ col := by omega
      rename Fr _ _ _ _ => F'
      rename News _ _ _ _ => N'
      obtain ⟨n, rfl⟩ : ∃ n', n = n' + 1 := ⟨n - 1, by omega⟩
      refine fn_getMethod (F'.keep _ _ hpq) (oneD_ns (F'.keep _ _ hpd)) (if_pos rfl) fn_search rfl ?_
      intro tk1
      dsimp only
      (repeat' (first | (k_unfold; (try dsimp only)) | ((((((fail_if_success (with_reducible show wpAny _ _ (exec (Stmt.While _ _ _ _) _) _ _ _)); (fail_if_success (with_reducible show wpAny _ _ (exec (Stmt.For _ _ _ _ _) _) _ _ _)))); (fail_if_success (with_reducible show wpAny _ _ (getMethod (Value.ref _) _ _) _ _ _)); (fail_if_success (with_reducible show wpAny _ _ (truthy (Value.ref _)) _ _ _)); (fail_if_success (with_reducible show wpAny _ _ (call (Value.ref _) _) _ _ _)))); (first | walk1 | (dsimp only; walk1)))))
      rename Fr _ _ _ _ => F'
      rename News _ _ _ _ => N'
      have N₃ : News _ L' _ (Hm ++ T₁) := fun p hp => N' p (List.mem_append.mpr ((List.mem_append.mp hp).imp (List.mem_append_left _) id))
      have hokm := hM.ok
      refine hS (own := Hm) (a := cj) F' N₃ X Tp HT₁ ?_ (fun p hp => ?_) hx (by omega) ⟨_, .inr ⟨_, rfl⟩⟩ (by dsimp only [Around.deeper, Around.in1, Around.mark]; omega) ?_ ?_
      · exact off_of (own := Hm) (T := T₁) N₃ HT₁.bad (fun x hx => List.mem_append_right _ hx) (fun x hx => ⟨List.mem_append_left _ hx, hokm x hx⟩)
      · exact hide_stays F' (fun p hp => N₃ p (List.mem_append_right _ hp)) _ _ (hB p hp)
      · clear F' N' N₃
        intro hn h9 tk9 F' N'
        (repeat' (first | (k_unfold; (try dsimp only)) | ((((((fail_if_success (with_reducible show wpAny _ _ (exec (Stmt.While _ _ _ _) _) _ _ _)); (fail_if_success (with_reducible show wpAny _ _ (exec (Stmt.For _ _ _ _ _) _) _ _ _)))); (fail_if_success (with_reducible show wpAny _ _ (getMethod (Value.ref _) _ _) _ _ _)); (fail_if_success (with_reducible show wpAny _ _ (truthy (Value.ref _)) _ _ _)); (fail_if_success (with_reducible show wpAny _ _ (call (Value.ref _) _) _ _ _)))); (first | walk1 | (dsimp only; walk1)))))
        rename Fr _ _ _ _ => F'
        rename News _ _ _ _ => N'
        dsimp only [WhileStep2]
        (repeat' (first | (k_unfold; (try dsimp only)) | ((((((fail_if_success (with_reducible show wpAny _ _ (exec (Stmt.While _ _ _ _) _) _ _ _)); (fail_if_success (with_reducible show wpAny _ _ (exec (Stmt.For _ _ _ _ _) _) _ _ _)))); (fail_if_success (with_reducible show wpAny _ _ (getMethod (Value.ref _) _ _) _ _ _)); (fail_if_success (with_reducible show wpAny _ _ (truthy (Value.ref _)) _ _ _)); (fail_if_success (with_reducible show wpAny _ _ (call (Value.ref _) _) _ _ _)))); (first | walk1 | (dsimp only; walk1)))))
        exact fin Hm T₁ (some (ci, cj)) (.ref q) _ _ _ _ F' N' HT₁ le₁ ⟨q, rfl, hM⟩ hokm (by rw [← hsr]; exact (srl_last hc (nxt_none hn)).symm)
      · clear F' N' N₃
        intro i hi q2 Hm2 T₂ h9 tk9 hM2 HT₂ le₂ F' N' off'
        obtain ⟨j, ej, enx, c1, c2, c3⟩ := G.nx b2 hi
        rw [ej] at hM2
        have hokm2 := hM2.ok
        (repeat' (first | (k_unfold; (try dsimp only)) | ((((((fail_if_success (with_reducible show wpAny _ _ (exec (Stmt.While _ _ _ _) _) _ _ _)); (fail_if_success (with_reducible show wpAny _ _ (exec (Stmt.For _ _ _ _ _) _) _ _ _)))); (fail_if_success (with_reducible show wpAny _ _ (getMethod (Value.ref _) _ _) _ _ _)); (fail_if_success (with_reducible show wpAny _ _ (truthy (Value.ref _)) _ _ _)); (fail_if_success (with_reducible show wpAny _ _ (call (Value.ref _) _) _ _ _)))); (first | walk1 | (dsimp only; walk1)))))
        rename Fr _ _ _ _ => F'
        rename News _ _ _ _ => N'
        obtain ⟨d1, f1, tk1', fd1, g1, g2, g3, B1, S1, kB1⟩ := hM2.use (fun p hp => (N' p (List.mem_append_left _ (List.mem_append_left _ hp))).1) (fun p hp => (N' p (List.mem_append_right _ hp)).1)
        refine fn_truthy g1 ?_
        (repeat' (first | (k_unfold; (try dsimp only)) | ((((((fail_if_success (with_reducible show wpAny _ _ (exec (Stmt.While _ _ _ _) _) _ _ _)); (fail_if_success (with_reducible show wpAny _ _ (exec (Stmt.For _ _ _ _ _) _) _ _ _)))); (fail_if_success (with_reducible show wpAny _ _ (getMethod (Value.ref _) _ _) _ _ _)); (fail_if_success (with_reducible show wpAny _ _ (truthy (Value.ref _)) _ _ _)); (fail_if_success (with_reducible show wpAny _ _ (call (Value.ref _) _) _ _ _)))); (first | walk1 | (dsimp only; walk1)))))
        rename Fr _ _ _ _ => F'
        rename News _ _ _ _ => N'
        refine fn_getMethod g1 (oneD_ns g2) (if_pos rfl) fn_span rfl ?_
        intro tk2
        dsimp only
        refine callWith_F0 g3 ?_
        refine S1 F' N' X Tp kB1 (by dsimp only [Around.deeper, Around.in1, Around.mark]; omega) ?_
        clear F' N' g1 g2 g3 kB1
        intro a t1 t2 h10 tk10 F' N'
        obtain ⟨N', na⟩ := N'
        (repeat' (first | (k_unfold; (try dsimp only)) | ((((((fail_if_success (with_reducible show wpAny _ _ (exec (Stmt.While _ _ _ _) _) _ _ _)); (fail_if_success (with_reducible show wpAny _ _ (exec (Stmt.For _ _ _ _ _) _) _ _ _)))); (fail_if_success (with_reducible show wpAny _ _ (getMethod (Value.ref _) _ _) _ _ _)); (fail_if_success (with_reducible show wpAny _ _ (truthy (Value.ref _)) _ _ _)); (fail_if_success (with_reducible show wpAny _ _ (call (Value.ref _) _) _ _ _)))); (first | walk1 | (dsimp only; walk1)))))
        rename Fr _ _ _ _ => F'
        rename News _ _ _ _ => N'
        refine ⟨_, _, _, (Hm2 ++ Hm) ++ T₂, n, rfl, F', fun p hp => N' p (List.mem_cons_of_mem _ hp), by omega, i, j, q2, Hm2, Hm, T₂, some (ci, cj), .ref q, _, _, _, _, rfl, HT₂, le₁.trans le₂, hM2, ⟨q, rfl, hM.le le₂⟩, fun p hp => (List.mem_append.mp hp).elim (hokm2 p) (hokm p), c2, c3, ?_, by omega, rfl, rfl, rfl, rfl, rfl, rfl, rfl⟩
        rw [← hsr]; exact (srl_step hc enx).symm
    · exact fin Hf T₁ fd fv _ _ _ _ F₂ (fun p hp => N₁ p (List.mem_append.mpr ((List.mem_append.mp hp).imp (List.mem_append_right _) id))) HT₁ le₁ hF (fun p hp => hok p (List.mem_append_right _ hp)) (by rw [← hsr]; exact (srl_stop (by dsimp only; omega)).symm)
    · exact fin Hf T₁ fd fv _ _ _ _ F₂ (fun p hp => N₁ p (List.mem_append.mpr ((List.mem_append.mp hp).imp (List.mem_append_right _) id))) HT₁ le₁ hF (fun p hp => hok p (List.mem_append_right _ hp)) (by rw [← hsr]; exact (srl_stop (by dsimp only; omega)).symm)
end

-- part span
theorem reset_span : True := by w_top off; trivial
/-- what _law_span tells -/
noncomputable def spn (opn clo : List Nat → Nat → Int) (l : List Nat) (col : Nat) : Nat × Nat := (sr opn clo l col).getD (0, 0)
section
variable {w : World} {dp un : Nat} {fr : Option (List Env)} {gd : Option (List Code)} {s : Shared} {Q E : Value → Shared → Prop} {loose : List Str} {mean : ExcName → Option Value} {mg mb : Str → Option Value} {h₀ : Heap} {L : Addr} {m : Str → Option Value} {own T : List (Addr × Obj)}
  (F : Fr h₀ L s.heap m) (N : News h₀ L s.heap (own ++ T)) (X : (hd.heap_1 w.params).In h₀) (Tp : Top topProg loose mean mg mb h₀) (HT : TabL T) (hoff : ∀ p ∈ own, ∀ q ∈ T, p.1 ≠ q.1) {pr : Addr} {opn clo : List Nat → Nat → Int} {x : Str} {col : Nat} {tx tc : Tok} (hx : x.length ≤ 64)
include F N X Tp HT hoff hx
set_option maxHeartbeats 8000000 in
theorem law_span_ok (G : Good opn clo) (hP : Prg w loose mean mg mb h₀ pr opn clo) (hcol : col ≤ 64) (hdp : dp + 9 < recursionLimit)
    (ret : ∀ (a : Addr) (t1 t2 : Tok) T' h' tk', TabL T' → Tle T T' → Fr h₀ L h' m → News h₀ L h' (((a, tupObj [.int ((spn opn clo (cs x) col).1 : Nat) t1, .int ((spn opn clo (cs x) col).2 : Nat) t2]) :: own) ++ T') → (∀ p ∈ (a, tupObj [.int ((spn opn clo (cs x) col).1 : Nat) t1, .int ((spn opn clo (cs x) col).2 : Nat) t2]) :: own, ∀ q ∈ T', p.1 ≠ q.1) → Q (.ref a) { s with heap := h', toks := tk' }) :
    wpAny (model PR w) (Ar dp fr gd un) (call (.ref 233) [.ref pr, .str x tx, .int (col : Nat) tc]) Q E s := by
  replace hP := hP.keeps (hide_stays F (fun p hp => N p (List.mem_append_right _ hp)))
  k_dflt (refine' enterT F N X Tp hoff ?k6 ?k7 ?k8 ?k9 ?kB ?_ ?c2 ?c3 ?c4 ?c5; (case k6 => k_is); (case k7 => k_is); (case k8 => (dsimp only; omega)); (case k9 => exact BindsTo.of_eq rfl); (case c5 => decide); (case kB => exact locs rfl); (case c2 => exact rfl); (case c3 => exact rfl); (case c4 => exact rfl); k_whole)
  clear F N X Tp hoff
  intro L' h₁ X Tp back _ F' N'
  have fin : ∀ (a : Addr) (t1 t2 : Tok) (T₁ : List (Addr × Obj)) (ij : Nat × Nat) (mm : Str → Option Value) (h' : Heap) (tk' : Nat), Fr (hideAll s.heap (T.map (·.1))) L' h' mm → News (hideAll s.heap (T.map (·.1))) L' h' ((a, tupObj [.int (ij.1 : Nat) t1, .int (ij.2 : Nat) t2]) :: T₁) → TabL T₁ → Tle T T₁ → ij = spn opn clo (cs x) col → Q (.ref a) { s with heap := h', toks := tk' } := by
    intro a t1 t2 T₁ ij mm h' tk' F' N' HT₁ le₁ hij
    subst hij
    have N'' : News _ L' h' ([_] ++ T₁) := N'
    obtain ⟨FR, NR, OF⟩ := back.out F' N'' (fun _ hp => hp)
    exact ret a t1 t2 T₁ _ _ HT₁ le₁ FR (news_perm NR) (off_perm NR HT₁ (List.forall_mem_cons.mpr ⟨rfl, fun _ h => nomatch h⟩) OF)
  clear ret
  (repeat' (first | (k_unfold; (try dsimp only)) | ((((((fail_if_success (with_reducible show wpAny _ _ (exec (Stmt.While _ _ _ _) _) _ _ _)); (fail_if_success (with_reducible show wpAny _ _ (exec (Stmt.For _ _ _ _ _) _) _ _ _)))); (fail_if_success (with_reducible show wpAny _ _ (getMethod (Value.ref _) _ _) _ _ _)); (fail_if_success (with_reducible show wpAny _ _ (truthy (Value.ref _)) _ _ _)); (fail_if_success (with_reducible show wpAny _ _ (call (Value.ref _) _) _ _ _)))); (first | walk1 | (dsimp only; walk1)))))
  rename Fr _ _ _ _ => F'
  rename News _ _ _ _ => N'
  refine search_reverse_ok (own := []) F' N' X Tp HT (fun _ h => nomatch h) hx G (hP.keeps (hide_stays F' N')) hcol (by dsimp only [Around.deeper, Around.in1, Around.mark]; omega) ?_ ?_
  · clear F' N'
    intro hn T' h9 tk9 HT' le' F' N' off'
    (repeat' (first | (k_unfold; (try dsimp only)) | ((((((fail_if_success (with_reducible show wpAny _ _ (exec (Stmt.While _ _ _ _) _) _ _ _)); (fail_if_success (with_reducible show wpAny _ _ (exec (Stmt.For _ _ _ _ _) _) _ _ _)))); (fail_if_success (with_reducible show wpAny _ _ (getMethod (Value.ref _) _ _) _ _ _)); (fail_if_success (with_reducible show wpAny _ _ (truthy (Value.ref _)) _ _ _)); (fail_if_success (with_reducible show wpAny _ _ (call (Value.ref _) _) _ _ _)))); (first | walk1 | (dsimp only; walk1)))))
    rename Fr _ _ _ _ => F'
    rename News _ _ _ _ => N'
    exact fin _ _ _ _ (0, 0) _ _ _ F' (fun p hp => N' p (by rcases List.mem_cons.mp hp with a | b; exact a ▸ List.mem_cons_self; exact List.mem_cons_of_mem _ b)) HT' le' (by unfold spn; rw [hn]; rfl)
  · clear F' N'
    intro i j hn q Hm T' h9 tk9 hM HT' le' F' N' off'
    (repeat' (first | (k_unfold; (try dsimp only)) | ((((((fail_if_success (with_reducible show wpAny _ _ (exec (Stmt.While _ _ _ _) _) _ _ _)); (fail_if_success (with_reducible show wpAny _ _ (exec (Stmt.For _ _ _ _ _) _) _ _ _)))); (fail_if_success (with_reducible show wpAny _ _ (getMethod (Value.ref _) _ _) _ _ _)); (fail_if_success (with_reducible show wpAny _ _ (truthy (Value.ref _)) _ _ _)); (fail_if_success (with_reducible show wpAny _ _ (call (Value.ref _) _) _ _ _)))); (first | walk1 | (dsimp only; walk1)))))
    rename Fr _ _ _ _ => F'
    rename News _ _ _ _ => N'
    obtain ⟨d1, f1, tk1', fd1, g1, g2, g3, B1, S1, kB1⟩ := hM.use (fun p hp => (N' p (by simp [hp])).1) (fun p hp => (N' p (by simp [hp])).1)
    refine fn_getMethod g1 (oneD_ns g2) (if_pos rfl) fn_span rfl ?_
    intro tk2
    dsimp only
    refine callWith_F0 g3 ?_
    refine S1 F' N' X Tp kB1 (by dsimp only [Around.deeper, Around.in1, Around.mark]; omega) ?_
    clear F' N' g1 g2 g3 kB1
    intro a t1 t2 h10 tk10 F' N'
    obtain ⟨N', na⟩ := N'
    (repeat' (first | (k_unfold; (try dsimp only)) | ((((((fail_if_success (with_reducible show wpAny _ _ (exec (Stmt.While _ _ _ _) _) _ _ _)); (fail_if_success (with_reducible show wpAny _ _ (exec (Stmt.For _ _ _ _ _) _) _ _ _)))); (fail_if_success (with_reducible show wpAny _ _ (getMethod (Value.ref _) _ _) _ _ _)); (fail_if_success (with_reducible show wpAny _ _ (truthy (Value.ref _)) _ _ _)); (fail_if_success (with_reducible show wpAny _ _ (call (Value.ref _) _) _ _ _)))); (first | walk1 | (dsimp only; walk1)))))
    rename Fr _ _ _ _ => F'
    rename News _ _ _ _ => N'
    exact fin _ _ _ _ (i, j) _ _ _ F' (fun p hp => N' p (by rcases List.mem_cons.mp hp with a | b; exact a ▸ List.mem_cons_self; exact List.mem_cons_of_mem _ (List.mem_append_right _ b))) HT' le' (by unfold spn; rw [hn]; rfl)
end

-- part txt
theorem reset_txt : True := by w_top off; trivial
section
variable {prog : Program} {w : World} {A : Around} {E : Value → Shared → Prop} {s : Shared} {env : Env} {h₀ : Heap} {x : Str} {body : List Stmt} {Q : Flow → Shared → Prop}
/-- a for over a list that the body leaves alone -/
theorem iter_seq {l : Addr} {vs : List Value} {m₀ : Str → Option Value} {news : List (Addr × Obj)} (J : Nat → (Str → Option Value) → List (Addr × Obj) → Prop)
    (hh : A.handled = none) (hls : s.heap.IsList l vs.toArray) (hlL : l ≠ env.locals) (hnl : ∀ p ∈ news, p.1 ≠ l) (F : Fr h₀ env.locals s.heap m₀) (N : News h₀ env.locals s.heap news) (hj : J 0 m₀ news)
    (turn : ∀ i v m₁ news₁ h tk own, vs[i]? = some v → news₁.map (·.1) = news.map (·.1) → OwnOff own (news.map (·.1)) → J i m₁ news₁ → Fr h₀ env.locals h (fun y => if y = x then some v else m₁ y) → News h₀ env.locals h (news₁ ++ own) →
      wpAny (model prog w) A (execs body env) (InvPostN h₀ env.locals (J (i + 1)) own (news.map (·.1)) { s with heap := h, toks := tk } Q) E { s with heap := h, toks := tk })
    (done : ∀ m₁ news₁ h tk, J vs.length m₁ news₁ → Fr h₀ env.locals h m₁ → News h₀ env.locals h news₁ → Q .next { s with heap := h, toks := tk }) :
    wpAny (model prog w) A (pyIter (.ref l)) (fun it s₂ => LoopAtV prog w A h₀ env x body Q E it s₂) E s := by
  obtain ⟨ol, hol, _⟩ := id hls
  have hne : l ≠ s.heap.objs.size := Nat.ne_of_lt (Heap.lt_size hol)
  refine wpAny_pyIter_list hls ?_
  have W := Walks.list (prog := prog) (w := w) hh s.heap.objs.size l hne vs.toArray
  have hlen : vs.toArray.size = vs.length := by simp
  rw [hlen] at W
  refine loop_invN (s := { s with heap := _ }) J W ?_ ?_ ?_ ?_ ⟨⟨_, Heap.get?_push_size _ rfl, rfl, rfl⟩, hls.at fun o e => Heap.get?_push_of_some _ e⟩ (F.push _) (fun p hp => ⟨Heap.get?_push_of_some _ (N p hp).1, (N p hp).2⟩) hj ?_ ?_
  · intro hm
    rcases List.mem_cons.mp hm with e | hm
    · exact absurd F.ns.lt (e ▸ Nat.lt_irrefl _)
    · exact hlL (List.mem_singleton.mp hm).symm
  · intro b hb
    rw [List.mem_singleton.mp hb]
    exact next_is_new F
  · intro p hp hI
    exact absurd (Heap.lt_size (N p hp).1) ((List.mem_singleton.mp hI) ▸ Nat.lt_irrefl _)
  · intro p hp hI
    rcases List.mem_cons.mp hI with e | hI
    · exact absurd (Heap.lt_size (N p hp).1) (e ▸ Nat.lt_irrefl _)
    · exact hnl p hp (List.mem_singleton.mp hI)
  · intro i v m₁ news₁ h tk own hin hP hadr hsep hJ F₁ N₁
    exact turn i v m₁ news₁ h tk own (by simpa using hP) hadr hsep hJ F₁ N₁
  · intro m₁ news₁ h tk hJ F₁ N₁
    exact done m₁ news₁ h tk hJ F₁ N₁
theorem iter_base {l : Addr} {vs : List Value} {m₀ : Str → Option Value} {news : List (Addr × Obj)} (J : Nat → (Str → Option Value) → List (Addr × Obj) → Prop)
    (hh : A.handled = none) (hl : h₀.IsList l vs.toArray) (F : Fr h₀ env.locals s.heap m₀) (N : News h₀ env.locals s.heap news) (hj : J 0 m₀ news)
    (turn : ∀ i v m₁ news₁ h tk own, vs[i]? = some v → news₁.map (·.1) = news.map (·.1) → OwnOff own (news.map (·.1)) → J i m₁ news₁ → Fr h₀ env.locals h (fun y => if y = x then some v else m₁ y) → News h₀ env.locals h (news₁ ++ own) →
      wpAny (model prog w) A (execs body env) (InvPostN h₀ env.locals (J (i + 1)) own (news.map (·.1)) { s with heap := h, toks := tk } Q) E { s with heap := h, toks := tk })
    (done : ∀ m₁ news₁ h tk, J vs.length m₁ news₁ → Fr h₀ env.locals h m₁ → News h₀ env.locals h news₁ → Q .next { s with heap := h, toks := tk }) :
    wpAny (model prog w) A (pyIter (.ref l)) (fun it s₂ => LoopAtV prog w A h₀ env x body Q E it s₂) E s := by
  have hls : s.heap.IsList l vs.toArray := hl.at fun o e => F.keep l o e
  obtain ⟨ol, hol, _⟩ := id hl
  have hlt : l < h₀.objs.size := Heap.lt_size hol
  refine iter_seq J hh hls (Nat.ne_of_lt (Nat.lt_of_lt_of_le hlt F.above)) (fun p hp e => ?_) F N hj turn done
  have := (N p hp).2.2
  rw [e, hol] at this; cases this
end

theorem tjoin (x : Str) (ys : List Str) : Txt.join x ys = Str.join x ys := StrLaws.glued_eq_join x ys
theorem str_len_app (x y : Str) : (x ++ y).length = x.length + y.length := by
  show (x.cps ++ y.cps).size = x.cps.size + y.cps.size
  exact Array.size_append
theorem join_len (sep : Str) : ∀ ys : List Str, (Str.join sep ys).length ≤ (ys.map (·.length)).sum + ys.length * sep.length
  | [] => by exact Nat.zero_le _
  | [x] => by show x.length ≤ _; simp
  | x :: y :: r => by
    have ih := join_len sep (y :: r)
    show (x ++ sep ++ Str.join sep (y :: r)).length ≤ _
    rw [str_len_app, str_len_app]
    simp only [List.map_cons, List.sum_cons, List.length_cons, Nat.add_mul, Nat.one_mul] at ih ⊢
    omega
theorem sum_le {ys : List Str} {k : Nat} (h : ∀ y ∈ ys, y.length ≤ k) : (ys.map (·.length)).sum ≤ ys.length * k := by
  induction ys with
  | nil => simp
  | cons y r ih =>
    rw [List.map_cons, List.sum_cons, List.length_cons, Nat.succ_mul]
    have := h y (by simp)
    have := ih fun z hz => h z (List.mem_cons_of_mem _ hz)
    omega

-- part straight
theorem reset_straight : True := by w_top off; trivial
noncomputable def stStep (st : List Str × Nat) (name : Str) : List Str × Nat :=
  if name = Str.ofString ".." then (st.1, st.2 + 1) else if name = Str.ofString "." then st else if st.2 = 0 then (st.1 ++ [name], 0) else (st.1, st.2 - 1)
noncomputable def straightS (root : Str) (names : List Str) : Str :=
  let r := names.foldl stStep ([], 0)
  root ++ Str.join (Str.ofString "/") (if root = Str.ofString "" then r.1 ++ List.replicate r.2 (Str.ofString "..") else r.1).reverse
theorem stFold_inv (xs : List Str) : ∀ (st : List Str × Nat), (xs.foldl stStep st).1.length + (xs.foldl stStep st).2 ≤ st.1.length + st.2 + xs.length ∧ ∀ k ∈ (xs.foldl stStep st).1, k ∈ st.1 ∨ k ∈ xs := by
  induction xs with
  | nil => intro st; exact ⟨Nat.le_refl _, fun k h => .inl h⟩
  | cons x r ih =>
    intro st
    obtain ⟨h1, h2⟩ := ih (stStep st x)
    rw [List.foldl_cons]
    have h3 : (stStep st x).1.length + (stStep st x).2 ≤ st.1.length + st.2 + 1 ∧ ∀ k ∈ (stStep st x).1, k ∈ st.1 ∨ k = x := by
      unfold stStep
      repeat' split
      · exact ⟨by dsimp only; omega, fun k h => .inl h⟩
      · exact ⟨by omega, fun k h => .inl h⟩
      · refine ⟨by rw [List.length_append]; simp, fun k h => ?_⟩
        rcases List.mem_append.mp h with h | h
        · exact .inl h
        · exact .inr (List.mem_singleton.mp h)
      · exact ⟨by dsimp only; omega, fun k h => .inl h⟩
    refine ⟨by rw [List.length_cons]; omega, fun k h => ?_⟩
    rcases h2 k h with h | h
    · rcases h3.2 k h with h | h
      · exact .inl h
      · exact .inr (h ▸ List.mem_cons_self)
    · exact .inr (List.mem_cons_of_mem _ h)
theorem strs_replicate (x : Str) (t : Tok) : ∀ n : Nat, StrsAre (List.replicate n (.str x t)) (List.replicate n x)
  | 0 => .nil
  | n + 1 => .cons _ _ (strs_replicate x t n)
theorem strs_reverse {vs : List Value} {xs : List Str} (h : StrsAre vs xs) : StrsAre vs.reverse xs.reverse := by
  induction h with
  | nil => exact .nil
  | cons y t _ ih => rw [List.reverse_cons, List.reverse_cons]; exact ih.append' (.cons _ _ .nil)
theorem flat_replicate {α : Type} (x : α) : ∀ n : Nat, (List.replicate n [x]).flatten = List.replicate n x
  | 0 => rfl
  | n + 1 => by rw [List.replicate_succ, List.replicate_succ, List.flatten_cons, flat_replicate x n]; rfl
section
variable {w : World} {dp un : Nat} {fr : Option (List Env)} {gd : Option (List Code)} {s : Shared} {Q E : Value → Shared → Prop} {loose : List Str} {mean : ExcName → Option Value} {mg mb : Str → Option Value} {h₀ : Heap} {L : Addr} {m : Str → Option Value} {news : List (Addr × Obj)}
  (F : Fr h₀ L s.heap m) (N : News h₀ L s.heap news) (X : (hd.heap_1 w.params).In h₀) (T : Top topProg loose mean mg mb h₀) {root : Str} {l : Addr} {vs : List Value} {xs : List Str} {t t1 t2 : Tok}
include F N X T
set_option maxHeartbeats 8000000 in
theorem straight_ok (hl : s.heap.IsList l vs.toArray) (hs : StrsAre vs xs) (hr : root.length ≤ 64) (hn : xs.length ≤ 64) (hxs : ∀ x ∈ xs, x.length ≤ 64) (hdp : dp + 2 < recursionLimit) (ret : RetS h₀ L m news s Q (straightS root xs)) : wpAny (model PR w) (Ar dp fr gd un) (call (.ref 247) [.str root t, .ref l]) Q E s := by
  ((k_dflt (refine' enterC (by assumption) (by assumption) (by assumption) (by assumption) ?k6 ?k7 ?k8 ?k9 ?kB ?_ ?c2 ?c3 ?c4 ?c5; (case k6 => k_is); (case k7 => k_is); (case k8 => (dsimp only; omega)); (case k9 => exact BindsTo.of_eq rfl); (case c5 => decide); (case kB => exact locs rfl); (case c2 => exact rfl); (case c3 => exact rfl); (case c4 => exact rfl); k_whole; intros; (try dsimp only); (try k_fold))))
  clear F N X T
  (repeat' (first | (k_unfold; (try dsimp only)) | ((((((fail_if_success (with_reducible show wpAny _ _ (exec (Stmt.While _ _ _ _) _) _ _ _)); (fail_if_success (with_reducible show wpAny _ _ (exec (Stmt.For _ _ _ _ _) _) _ _ _)))); (fail_if_success (with_reducible show InvEndN _ _ _ _ _ _ _)); (fail_if_success (with_reducible show wpAny _ _ (pyIter (Value.ref _)) _ _ _)))); (first | walk1 | (dsimp only; walk1)))))
  rename Fr _ _ _ _ => F'
  rename News _ _ _ _ => N'
  k_dflt (refine' For_invVF F' ?k1 ?k2 ?_; (case k1 => exact rfl); (case k2 => exact rfl); k_whole)
  (repeat' (first | (k_unfold; (try dsimp only)) | ((((((fail_if_success (with_reducible show wpAny _ _ (exec (Stmt.While _ _ _ _) _) _ _ _)); (fail_if_success (with_reducible show wpAny _ _ (exec (Stmt.For _ _ _ _ _) _) _ _ _)))); (fail_if_success (with_reducible show InvEndN _ _ _ _ _ _ _)); (fail_if_success (with_reducible show wpAny _ _ (pyIter (Value.ref _)) _ _ _)))); (first | walk1 | (dsimp only; walk1)))))
  rename_i l' tk' hp0 _ _
  rename Fr _ _ _ _ => F'
  rename News _ _ _ _ => N'
  refine iter_base (fun i m₁ nx => ∃ us n td tr, nx = [(l', W.listOf (List.toArray us) n)] ∧ StrsAre us ((xs.take i).foldl stStep ([], 0)).1 ∧ m₁ (Str.ofString "root") = some (.str root tr) ∧ m₁ (Str.ofString "kept") = some (.ref l') ∧ m₁ (Str.ofString "debt") = some (.int (((xs.take i).foldl stStep ([], 0)).2 : Nat) td)) rfl hl F' N' ⟨[], 0, _, _, rfl, .nil, rfl, rfl, rfl⟩ ?_ ?_
  · clear F' N'
    rintro i v m₁ nx h₁ tk₁ own hv _ hoff ⟨us, n, td, tr, rfl, hu, e1, e2, e3⟩ F₁ N₁
    obtain ⟨y, ty, rfl, hy⟩ := hs.item i v hv
    have hyl : y.length ≤ 64 := hxs y (List.mem_of_getElem? hy)
    have hst : (xs.take (i + 1)).foldl stStep ([], 0) = stStep ((xs.take i).foldl stStep ([], 0)) y := by rw [List.take_add_one, hy]; simp
    have hfi := stFold_inv (xs.take i) ([], 0)
    have htl : (xs.take i).length ≤ xs.length := by rw [List.length_take]; omega
    have hul : us.length ≤ 64 := by rw [hu.length]; have := hfi.1; simp only [List.length_nil] at this; omega
    rw [hst]
    clear hfi htl
    generalize (xs.take i).foldl stStep ([], 0) = st at hu e3 ⊢
    obtain ⟨ks, d⟩ := st
    have F₂ := nam4 F₁ (x1 := Str.ofString "root") (by rw [if_neg (by decide)]; exact e1) (x2 := Str.ofString "kept") (by rw [if_neg (by decide)]; exact e2) (x3 := Str.ofString "debt") (by rw [if_neg (by decide)]; exact e3) (x4 := Str.ofString "name") (if_pos rfl)
    clear F₁ e1 e2 e3
    dsimp only at hu F₂ ⊢
    simp only [List.map_cons, List.map_nil] at hoff ⊢
    (repeat' (first | (k_unfold; (try dsimp only)) | ((((((fail_if_success (with_reducible show wpAny _ _ (exec (Stmt.While _ _ _ _) _) _ _ _)); (fail_if_success (with_reducible show wpAny _ _ (exec (Stmt.For _ _ _ _ _) _) _ _ _)))); (fail_if_success (with_reducible show InvEndN _ _ _ _ _ _ _)); (fail_if_success (with_reducible show wpAny _ _ (pyIter (Value.ref _)) _ _ _)))); (first | walk1 | (dsimp only; walk1)))))
    · rename (_ == _) = true => q
      have q' := beq_iff_eq.mp q
      rw [show stStep (ks, d) y = (ks, d + 1) from if_pos q']
      exact InvEndN.intro (by assumption) (by assumption) ⟨us, n, _, tr, rfl, hu, rfl, rfl, rfl⟩ rfl (fun p hp => List.mem_append_left _ hp) fun p hp => List.mem_append_right _ hp
    · rename (_ == _) = false => q
      rename (_ != _) = true => q2
      rename (_ : Int) ≠ 0 => q3
      have q' := beq_eq_false_iff_ne.mp q
      have q2' := bne_iff_ne.mp q2
      have q3' : d ≠ 0 := by omega
      have q4 : ((d - 1 : Nat) : Int) = (d : Int) - 1 := by omega
      rw [show stStep (ks, d) y = (ks, d - 1) by unfold stStep; rw [if_neg q', if_neg q2', if_neg q3']]
      dsimp only
      rw [q4]
      exact InvEndN.intro (by assumption) (by assumption) ⟨us, n, _, tr, rfl, hu, rfl, rfl, rfl⟩ rfl (fun p hp => List.mem_append_left _ hp) fun p hp => List.mem_append_right _ hp
    · rename (_ == _) = false => q
      rename (_ != _) = true => q2
      rename (_ : Int) = 0 => q3
      have q' := beq_eq_false_iff_ne.mp q
      have q2' := bne_iff_ne.mp q2
      have q3' : d = 0 := by omega
      rename News _ _ _ _ => N'
      simp only [List.push_toArray] at N'
      rw [show stStep (ks, d) y = (ks ++ [y], d) by unfold stStep; rw [if_neg q', if_neg q2', if_pos q3', q3']]
      exact InvEndN.intro (by assumption) N' ⟨us ++ [.str y ty], n + 1, _, tr, rfl, hu.append' (.cons _ _ .nil), rfl, rfl, rfl⟩ rfl (fun p hp => List.mem_append_left _ hp) fun p hp => List.mem_cons_of_mem _ hp
    · rename (_ == _) = false => q
      rename (_ != _) = false => q2
      have q' := beq_eq_false_iff_ne.mp q
      have q2' := bne_eq_false_iff_eq.mp q2
      rw [show stStep (ks, d) y = (ks, d) by unfold stStep; rw [if_neg q', if_pos q2']]
      exact InvEndN.intro (by assumption) (by assumption) ⟨us, n, _, tr, rfl, hu, rfl, rfl, rfl⟩ rfl (fun p hp => List.mem_append_left _ hp) fun p hp => List.mem_append_right _ hp
  · clear F' N'
    rintro m₁ nx h₁ tk₁ ⟨us, n, td, tr, rfl, hu, e1, e2, e3⟩ F₁ N₁
    rw [show vs.length = xs.length from hs.length, List.take_length] at hu e3
    have hfi := stFold_inv xs ([], 0)
    have F₂ := nam3 F₁ e1 e2 e3
    clear F₁ e1 e2 e3
    unfold straightS at ret
    generalize xs.foldl stStep ([], 0) = st at hu F₂ hfi ret
    obtain ⟨ks, d⟩ := st
    dsimp only at hu F₂ hfi ret
    obtain ⟨hf1, hf2⟩ := hfi
    simp only [List.length_nil, Nat.zero_add] at hf1
    have hf3 : ∀ k ∈ ks, k.length ≤ 64 := fun k hk => (hf2 k hk).elim (fun h => nomatch h) (hxs k)
    clear hf2
    have hul : us.length ≤ 64 := by rw [hu.length]; omega
    (repeat' (first | (k_unfold; (try dsimp only)) | ((((((fail_if_success (with_reducible show wpAny _ _ (exec (Stmt.While _ _ _ _) _) _ _ _)); (fail_if_success (with_reducible show wpAny _ _ (exec (Stmt.For _ _ _ _ _) _) _ _ _)))); (fail_if_success (with_reducible show InvEndN _ _ _ _ _ _ _)); (fail_if_success (with_reducible show wpAny _ _ (binaryOp Operator.Mult (Value.ref _) _) _ _ _)); (fail_if_success (with_reducible show wpAny _ _ (binaryOp Operator.Add (Value.ref _) _) _ _ _)); (fail_if_success (with_reducible show wpAny _ _ (subscriptTail _ _ (Value.ref _) _) _ _ _)); (fail_if_success (with_reducible show wpAny _ _ (call (Value.builtin "list.pop") _) _ _ _)); (fail_if_success (with_reducible show wpAny _ _ (call (Value.builtin _) [Value.str _ _, Value.ref _]) _ _ _)))); (first | walk1 | (dsimp only; walk1)))))
    · rename (_ == _) = true => q
      have q' := beq_iff_eq.mp q
      rw [if_pos q'] at ret
      rename Fr _ _ _ _ => F'
      rename News _ _ _ _ => N'
      refine' KMa.mul (vs := [.str (Str.ofString "..") tk]) ?F1 ?N1 ?l1 ?lo ?hi ?z (flat_replicate _ _) ?_
      case F1 => exact F'
      case N1 => exact N'
      case l1 => exact ⟨_, (N' _ (.head _)).1, rfl, _, rfl⟩
      case lo => omega
      case hi => omega
      case z => rw [Int.toNat_natCast]; simp only [List.length_cons, List.length_nil]; omega
      clear F' N'
      intro D' h' F' N' l1
      refine' kmk_add_lit ?F2 ?N2 ?l2 ?l3 rfl ?_ ?z2
      case F2 => exact F'
      case N2 => exact N'
      case l2 => exact ⟨_, (N' _ (.tail _ (.tail _ (.head _)))).1, rfl, _, rfl⟩
      case l3 => exact ⟨_, (N' _ (.head _)).1, rfl, _, rfl⟩
      case z2 => simp only [List.length_replicate, sizeLine_eq]; omega
      clear F' N' l1
      rw [Int.toNat_natCast]
      intro D2 h' F' N' l1
      have hu2 := strs_reverse (hu.append' (strs_replicate (Str.ofString "..") tk d))
      have hsum : (((ks ++ List.replicate d (Str.ofString "..")).reverse).map (·.length)).sum ≤ ((ks ++ List.replicate d (Str.ofString "..")).reverse).length * 64 := sum_le fun y hy => by
        rcases List.mem_append.mp (List.mem_reverse.mp hy) with h | h
        · exact hf3 y h
        · rw [List.eq_of_mem_replicate h]; decide
      have hlen : ((ks ++ List.replicate d (Str.ofString "..")).reverse).length ≤ 64 := by rw [List.length_reverse, List.length_append, List.length_replicate]; omega
      dsimp only at F' N' hu2
      (repeat' (first | (k_unfold; (try dsimp only)) | ((((((fail_if_success (with_reducible show wpAny _ _ (exec (Stmt.While _ _ _ _) _) _ _ _)); (fail_if_success (with_reducible show wpAny _ _ (exec (Stmt.For _ _ _ _ _) _) _ _ _)))); (fail_if_success (with_reducible show InvEndN _ _ _ _ _ _ _)); (fail_if_success (with_reducible show wpAny _ _ (binaryOp Operator.Mult (Value.ref _) _) _ _ _)); (fail_if_success (with_reducible show wpAny _ _ (binaryOp Operator.Add (Value.ref _) _) _ _ _)); (fail_if_success (with_reducible show wpAny _ _ (subscriptTail _ _ (Value.ref _) _) _ _ _)); (fail_if_success (with_reducible show wpAny _ _ (call (Value.builtin "list.pop") _) _ _ _)); (fail_if_success (with_reducible show wpAny _ _ (call (Value.builtin _) [Value.str _ _, Value.ref _]) _ _ _)))); (first | walk1 | (dsimp only; walk1)))))
      rename Fr _ _ _ _ => F'
      rename News _ _ _ _ => N'
      refine' krv_lit ?F3 ?N3 ?l5 (IsPart.int _ _) rfl ?_ ?s5 ?t5 ?z5
      case F3 => exact F'
      case N3 => exact N'
      case l5 => exact ⟨_, (N' _ (.head _)).1, rfl, _, rfl⟩
      case s5 => with_unfolding_all rfl
      case t5 => kmk_pure
      case z5 => simp only [List.size_toArray, List.length_append, List.length_replicate, sizeLine_eq]; omega
      clear F' N' l1
      intro D3 h' F' N' l1
      dsimp only at F' N'
      (repeat' (first | (k_unfold; (try dsimp only)) | ((((((fail_if_success (with_reducible show wpAny _ _ (exec (Stmt.While _ _ _ _) _) _ _ _)); (fail_if_success (with_reducible show wpAny _ _ (exec (Stmt.For _ _ _ _ _) _) _ _ _)))); (fail_if_success (with_reducible show InvEndN _ _ _ _ _ _ _)); (fail_if_success (with_reducible show wpAny _ _ (binaryOp Operator.Mult (Value.ref _) _) _ _ _)); (fail_if_success (with_reducible show wpAny _ _ (binaryOp Operator.Add (Value.ref _) _) _ _ _)); (fail_if_success (with_reducible show wpAny _ _ (subscriptTail _ _ (Value.ref _) _) _ _ _)); (fail_if_success (with_reducible show wpAny _ _ (call (Value.builtin "list.pop") _) _ _ _)); (fail_if_success (with_reducible show wpAny _ _ (call (Value.builtin _) [Value.str _ _, Value.ref _]) _ _ _)))); (first | walk1 | (dsimp only; walk1)))))
      rename Fr _ _ _ _ => F'
      rename News _ _ _ _ => N'
      refine' join_listW ?l6 ?s6 (by decide +kernel) ?z6 ?_
      case l6 => exact ⟨_, (N' _ (.head _)).1, rfl, _, rfl⟩
      case s6 => exact hu2
      case z6 => omega
      intro t' k'
      have hjl := join_len (Str.ofString "/") (ks ++ List.replicate d (Str.ofString "..")).reverse
      rw [tjoin]
      rw [show (Str.ofString "/").length = 1 from rfl] at hjl
      generalize (ks ++ List.replicate d (Str.ofString "..")).reverse = zs at *
      generalize hJ : Str.join (Str.ofString "/") zs = J at *
      have hJ2 : J.length ≤ 8000 := by omega
      clear hjl
      (repeat' (first | (k_unfold; (try dsimp only)) | ((((((fail_if_success (with_reducible show wpAny _ _ (exec (Stmt.While _ _ _ _) _) _ _ _)); (fail_if_success (with_reducible show wpAny _ _ (exec (Stmt.For _ _ _ _ _) _) _ _ _)))); (fail_if_success (with_reducible show InvEndN _ _ _ _ _ _ _)); (fail_if_success (with_reducible show wpAny _ _ (pyIter (Value.ref _)) _ _ _)))); (first | walk1 | (dsimp only; walk1)))))
      exact ret _ _ _ (Back.fr (by assumption) (by assumption)) (Back.news (by assumption) (by assumption))
    · rename (_ == _) = false => q
      have q' := beq_eq_false_iff_ne.mp q
      rw [if_neg q'] at ret
      have hu2 := strs_reverse hu
      have hsum : ((ks.reverse).map (·.length)).sum ≤ (ks.reverse).length * 64 := sum_le fun y hy => hf3 y (List.mem_reverse.mp hy)
      have hlen : (ks.reverse).length ≤ 64 := by rw [List.length_reverse]; omega
      rename Fr _ _ _ _ => F'
      rename News _ _ _ _ => N'
      refine' krv_lit ?F3 ?N3 ?l5 (IsPart.int _ _) rfl ?_ ?s5 ?t5 ?z5
      case F3 => exact F'
      case N3 => exact N'
      case l5 => exact ⟨_, (N' _ (.head _)).1, rfl, _, rfl⟩
      case s5 => with_unfolding_all rfl
      case t5 => kmk_pure
      case z5 => simp only [List.size_toArray, sizeLine_eq]; omega
      clear F' N'
      intro D3 h' F' N' l1
      dsimp only at F' N'
      (repeat' (first | (k_unfold; (try dsimp only)) | ((((((fail_if_success (with_reducible show wpAny _ _ (exec (Stmt.While _ _ _ _) _) _ _ _)); (fail_if_success (with_reducible show wpAny _ _ (exec (Stmt.For _ _ _ _ _) _) _ _ _)))); (fail_if_success (with_reducible show InvEndN _ _ _ _ _ _ _)); (fail_if_success (with_reducible show wpAny _ _ (binaryOp Operator.Mult (Value.ref _) _) _ _ _)); (fail_if_success (with_reducible show wpAny _ _ (binaryOp Operator.Add (Value.ref _) _) _ _ _)); (fail_if_success (with_reducible show wpAny _ _ (subscriptTail _ _ (Value.ref _) _) _ _ _)); (fail_if_success (with_reducible show wpAny _ _ (call (Value.builtin "list.pop") _) _ _ _)); (fail_if_success (with_reducible show wpAny _ _ (call (Value.builtin _) [Value.str _ _, Value.ref _]) _ _ _)))); (first | walk1 | (dsimp only; walk1)))))
      rename Fr _ _ _ _ => F'
      rename News _ _ _ _ => N'
      refine' join_listW ?l6 ?s6 (by decide +kernel) ?z6 ?_
      case l6 => exact ⟨_, (N' _ (.head _)).1, rfl, _, rfl⟩
      case s6 => exact hu2
      case z6 => omega
      intro t' k'
      have hjl := join_len (Str.ofString "/") ks.reverse
      rw [tjoin]
      rw [show (Str.ofString "/").length = 1 from rfl] at hjl
      generalize ks.reverse = zs at *
      generalize hJ : Str.join (Str.ofString "/") zs = J at *
      have hJ2 : J.length ≤ 8000 := by omega
      clear hjl
      (repeat' (first | (k_unfold; (try dsimp only)) | ((((((fail_if_success (with_reducible show wpAny _ _ (exec (Stmt.While _ _ _ _) _) _ _ _)); (fail_if_success (with_reducible show wpAny _ _ (exec (Stmt.For _ _ _ _ _) _) _ _ _)))); (fail_if_success (with_reducible show InvEndN _ _ _ _ _ _ _)); (fail_if_success (with_reducible show wpAny _ _ (pyIter (Value.ref _)) _ _ _)))); (first | walk1 | (dsimp only; walk1)))))
      exact ret _ _ _ (Back.fr (by assumption) (by assumption)) (Back.news (by assumption) (by assumption))
end

-- part norm
theorem reset_norm : True := by w_top off; trivial
noncomputable def nmStep (root : Str) (st : List Str) (comp : Str) : List Str :=
  if comp = Str.ofString "" ∨ comp = Str.ofString "." then st
  else if comp ≠ Str.ofString ".." ∨ (root = Str.ofString "" ∧ st = []) ∨ st.getLast? = some (Str.ofString "..") then st ++ [comp] else st.dropLast
noncomputable def normS (x : Str) : Str :=
  if x = Str.ofString "" then Str.ofString "." else
  let p := rootS x ++ Str.join (Str.ofString "/") ((Txt.split (restS x) (Str.ofString "/")).foldl (nmStep (rootS x)) [])
  if p = Str.ofString "" then Str.ofString "." else p
theorem len_zero {x : Str} : x.length = 0 ↔ x = Str.ofString "" := by
  rw [lit_nil]
  constructor
  · intro h
    rw [← S_of x]
    congr 1
    exact List.eq_nil_of_length_eq_zero (by rw [cs_len]; exact h)
  · intro h; rw [h]; rfl
theorem rootS_le (x : Str) (h : x.length ≤ 64) : (rootS x).length ≤ 64 := by
  unfold rootS
  repeat' split
  all_goals first | decide | exact Nat.le_trans (Txt.slice_le _ _ _) h
theorem restS_le (x : Str) (h : x.length ≤ 64) : (restS x).length ≤ 64 := by
  unfold restS
  repeat' split
  all_goals first | exact h | exact Nat.le_trans (Txt.slice_le _ _ _) h
theorem nmFold_inv (rx : Str) (xs : List Str) : ∀ (st : List Str), (xs.foldl (nmStep rx) st).length ≤ st.length + xs.length ∧ ∀ k ∈ xs.foldl (nmStep rx) st, k ∈ st ∨ k ∈ xs := by
  induction xs with
  | nil => intro st; exact ⟨Nat.le_refl _, fun k h => .inl h⟩
  | cons x r ih =>
    intro st
    obtain ⟨h1, h2⟩ := ih (nmStep rx st x)
    rw [List.foldl_cons]
    have h3 : (nmStep rx st x).length ≤ st.length + 1 ∧ ∀ k ∈ nmStep rx st x, k ∈ st ∨ k = x := by
      unfold nmStep
      repeat' split
      · exact ⟨by omega, fun k h => .inl h⟩
      · refine ⟨by rw [List.length_append]; simp, fun k h => ?_⟩
        rcases List.mem_append.mp h with h | h
        · exact .inl h
        · exact .inr (List.mem_singleton.mp h)
      · exact ⟨by rw [List.length_dropLast]; omega, fun k h => .inl (List.dropLast_subset _ h)⟩
    refine ⟨by rw [List.length_cons]; omega, fun k h => ?_⟩
    rcases h2 k h with h | h
    · rcases h3.2 k h with h | h
      · exact .inl h
      · exact .inr (h ▸ List.mem_cons_self)
    · exact .inr (List.mem_cons_of_mem _ h)
theorem split_len (y : Str) : (Txt.split y (Str.ofString "/")).length ≤ y.length + 1 := by
  have e : y = S (cs y) := (S_of y).symm
  rw [e, lit_slash, split_S, List.length_map, S_len]
  generalize cs y = l
  induction l with
  | nil => exact Nat.le_refl _
  | cons a r ih =>
    rw [splitL]
    split
    · rw [List.length_cons, List.length_cons]; omega
    · split
      · simp
      · rename_i h; rw [h] at ih; simp only [List.length_cons] at ih ⊢; omega
--MACRO
local macro_rules | `(tactic| walk_at "truthy ref") => `(tactic| (k_here; (with_reducible show wpAny _ _ (truthy (Value.ref _)) _ _ _); k_dflt (refine' kgr_truthy ?N ?m ?c ?d ?f ?_; (case N => k_asm); (case m => exact .head _); (case c => exact rfl); (case d => exact rfl); (case f => first | (with_reducible exact Nat.lt_of_le_of_lt (m := 65) (by assumption) (by decide)) | decide); k_whole); (try simp only [List.isEmpty_cons, List.isEmpty_nil, Bool.not_false, Bool.not_true])))
--END
section
variable {w : World} {dp un : Nat} {fr : Option (List Env)} {gd : Option (List Code)} {s : Shared} {Q E : Value → Shared → Prop} {loose : List Str} {mean : ExcName → Option Value} {mg mb : Str → Option Value} {h₀ : Heap} {L : Addr} {m : Str → Option Value} {news : List (Addr × Obj)}
  (F : Fr h₀ L s.heap m) (N : News h₀ L s.heap news) (X : (hd.heap_1 w.params).In h₀) (T : Top topProg loose mean mg mb h₀) {x : Str} {t : Tok} (hx : x.length ≤ 64)
include F N X T hx
set_option maxHeartbeats 8000000 in
theorem normpath_ok (hdp : dp + 4 < recursionLimit) (ret : RetS h₀ L m news s Q (normS x)) : wpAny (model PR w) (Ar dp fr gd un) (call (.ref 181) [.str x t]) Q E s := by
  ((k_dflt (refine' enterC (by assumption) (by assumption) (by assumption) (by assumption) ?k6 ?k7 ?k8 ?k9 ?kB ?_ ?c2 ?c3 ?c4 ?c5; (case k6 => k_is); (case k7 => k_is); (case k8 => (dsimp only; omega)); (case k9 => exact BindsTo.of_eq rfl); (case c5 => decide); (case kB => exact locs rfl); (case c2 => exact rfl); (case c3 => exact rfl); (case c4 => exact rfl); k_whole; intros; (try dsimp only); (try k_fold))))
  clear F N X T
  (repeat' (first | (k_unfold; (try dsimp only)) | ((((((fail_if_success (with_reducible show wpAny _ _ (exec (Stmt.While _ _ _ _) _) _ _ _)); (fail_if_success (with_reducible show wpAny _ _ (exec (Stmt.For _ _ _ _ _) _) _ _ _)))); (fail_if_success (with_reducible show InvEndN _ _ _ _ _ _ _)); (fail_if_success (with_reducible show wpAny _ _ (binaryOp Operator.Mult (Value.ref _) _) _ _ _)); (fail_if_success (with_reducible show wpAny _ _ (binaryOp Operator.Add (Value.ref _) _) _ _ _)); (fail_if_success (with_reducible show wpAny _ _ (subscriptTail _ _ (Value.ref _) _) _ _ _)); (fail_if_success (with_reducible show wpAny _ _ (call (Value.builtin "list.pop") _) _ _ _)); (fail_if_success (with_reducible show wpAny _ _ (call (Value.builtin _) [Value.str _ _, Value.ref _]) _ _ _)))); (first | walk1 | (dsimp only; walk1)))))
  rotate_left
  · rename (_ : Int) = 0 => q
    refine ret.eq ?_ _ _ _ (Back.fr (by assumption) (by assumption)) (Back.news (by assumption) (by assumption))
    unfold normS
    rw [if_pos (len_zero.mp (by omega))]
  rename (_ : Int) ≠ 0 => q
  have hx0 : x ≠ Str.ofString "" := fun z => q (by rw [len_zero.mpr z]; rfl)
  rename Fr _ _ _ _ => F'
  rename News _ _ _ _ => N'
  unfold normS at ret
  rw [if_neg hx0] at ret
  have hr := rootS_le x hx
  have ht := restS_le x hx
  generalize rootS x = rx at *
  generalize restS x = tx at *
  (repeat' (first | (k_unfold; (try dsimp only)) | ((((((fail_if_success (with_reducible show wpAny _ _ (exec (Stmt.While _ _ _ _) _) _ _ _)); (fail_if_success (with_reducible show wpAny _ _ (exec (Stmt.For _ _ _ _ _) _) _ _ _)))); (fail_if_success (with_reducible show InvEndN _ _ _ _ _ _ _)); (fail_if_success (with_reducible show wpAny _ _ (binaryOp Operator.Mult (Value.ref _) _) _ _ _)); (fail_if_success (with_reducible show wpAny _ _ (binaryOp Operator.Add (Value.ref _) _) _ _ _)); (fail_if_success (with_reducible show wpAny _ _ (subscriptTail _ _ (Value.ref _) _) _ _ _)); (fail_if_success (with_reducible show wpAny _ _ (call (Value.builtin "list.pop") _) _ _ _)); (fail_if_success (with_reducible show wpAny _ _ (call (Value.builtin _) [Value.str _ _, Value.ref _]) _ _ _)))); (first | walk1 | (dsimp only; walk1)))))
  rename List.map _ _ = Txt.split _ _ => es
  rename StrsAre _ _ => hs
  rename ∀ _, _ ∈ _ → _ ≤ _ => hshort
  rename Fr _ _ _ _ => F'
  rename News _ _ _ _ => N'
  have hsl := split_len tx
  rw [← es] at ret hsl
  generalize List.map _ _ = zs at *
  generalize strValues _ = vs at *
  rename _ < _ ∧ _ < _ => l1
  have hl := (⟨_, (N' _ (.tail _ (.head _))).1, rfl, _, rfl⟩ : Heap.IsList _ _ vs.toArray)
  have hCL := (N' _ (.tail _ (.head _))).2.1
  dsimp only at hl hCL
  k_dflt (refine' For_invVF F' ?k1 ?k2 ?_; (case k1 => exact rfl); (case k2 => exact rfl); k_whole)
  walk1
  rename_i l' _ _ _
  have N₀ : News _ _ _ [(l', W.listOf (List.toArray []) 0)] := fun p hp => N' p (by rw [List.mem_singleton.mp hp]; exact .head _)
  refine iter_seq (fun i m₁ nx => ∃ us n tr t1 t2 t3, nx = [(l', W.listOf (List.toArray us) n)] ∧ StrsAre us ((zs.take i).foldl (nmStep rx) []) ∧ m₁ (Str.ofString "initial_slashes") = some (.str rx tr) ∧ m₁ (Str.ofString "new_comps") = some (.ref l') ∧ m₁ (Str.ofString "sep") = some (.str (Str.ofString "/") t1) ∧ m₁ (Str.ofString "dot") = some (.str (Str.ofString ".") t2) ∧ m₁ (Str.ofString "dotdot") = some (.str (Str.ofString "..") t3)) rfl hl hCL ?hne F' N₀ ⟨[], 0, _, _, _, _, rfl, .nil, rfl, rfl, rfl, rfl, rfl⟩ ?_ ?_
  case hne => exact List.forall_mem_cons.mpr ⟨fun e => Nat.lt_irrefl _ (e ▸ l1.1), fun _ h => nomatch h⟩
  · clear F' N' N₀ hl hCL l1
    rintro i v m₁ nx h₁ tk₁ own hv _ hoff ⟨us, n, tr, t1, t2, t3, rfl, hu, e1, e2, e3, e4, e5⟩ F₁ N₁
    obtain ⟨y, ty, rfl, hy⟩ := hs.item i v hv
    have hyl : y.length ≤ 64 := Nat.le_trans (hshort y (List.mem_of_getElem? hy)) ht
    have hst : (zs.take (i + 1)).foldl (nmStep rx) [] = nmStep rx ((zs.take i).foldl (nmStep rx) []) y := by rw [List.take_add_one, hy]; simp
    have hfi := nmFold_inv rx (zs.take i) []
    have hkl : ∀ k ∈ (zs.take i).foldl (nmStep rx) [], k.length ≤ 64 := fun k hk => (hfi.2 k hk).elim (fun h => nomatch h) fun h => Nat.le_trans (hshort k (List.mem_of_mem_take h)) ht
    have htl : (zs.take i).length ≤ zs.length := by rw [List.length_take]; omega
    have hul : us.length ≤ 65 := by rw [hu.length]; have := hfi.1; simp only [List.length_nil] at this; omega
    rw [hst]
    clear hfi htl
    generalize (zs.take i).foldl (nmStep rx) [] = ks at hu hkl ⊢
    have F₂ := nam6 F₁ (x1 := Str.ofString "initial_slashes") (by rw [if_neg (by decide)]; exact e1) (x2 := Str.ofString "new_comps") (by rw [if_neg (by decide)]; exact e2) (x3 := Str.ofString "sep") (by rw [if_neg (by decide)]; exact e3) (x4 := Str.ofString "dot") (by rw [if_neg (by decide)]; exact e4) (x5 := Str.ofString "dotdot") (by rw [if_neg (by decide)]; exact e5) (x6 := Str.ofString "comp") (if_pos rfl)
    clear F₁ e1 e2 e3 e4 e5
    simp only [List.map_cons, List.map_nil] at hoff ⊢
    rcases PyProof.Rows.strs_nil_or_snoc hu with ⟨rfl, rfl⟩ | ⟨ui, ki, z, tz, rfl, rfl, hu'⟩
    · (repeat' (first | (k_unfold; (try dsimp only)) | ((((((fail_if_success (with_reducible show wpAny _ _ (exec (Stmt.While _ _ _ _) _) _ _ _)); (fail_if_success (with_reducible show wpAny _ _ (exec (Stmt.For _ _ _ _ _) _) _ _ _)))); (fail_if_success (with_reducible show InvEndN _ _ _ _ _ _ _)); (fail_if_success (with_reducible show wpAny _ _ (binaryOp Operator.Mult (Value.ref _) _) _ _ _)); (fail_if_success (with_reducible show wpAny _ _ (binaryOp Operator.Add (Value.ref _) _) _ _ _)); (fail_if_success (with_reducible show wpAny _ _ (subscriptTail _ _ (Value.ref _) _) _ _ _)); (fail_if_success (with_reducible show wpAny _ _ (call (Value.builtin "list.pop") _) _ _ _)); (fail_if_success (with_reducible show wpAny _ _ (call (Value.builtin _) [Value.str _ _, Value.ref _]) _ _ _)))); (first | walk1 | (dsimp only; walk1)))))
      · rename (_ == _) = true => q2
        have q3 := beq_iff_eq.mp q2
        rw [show nmStep rx [] y = [] from if_pos (.inr q3)]
        exact InvEndN.intro (by assumption) (by assumption) ⟨[], n, _, _, _, _, rfl, .nil, rfl, rfl, rfl, rfl, rfl⟩ rfl (fun p hp => List.mem_append_left _ hp) fun p hp => List.mem_append_right _ hp
      · rename (_ : Int) ≠ 0 => q1
        rename (_ == _) = false => q2
        rename (_ != _) = true => q3
        have q1' : y ≠ Str.ofString "" := fun z => q1 (by rw [len_zero.mpr z]; rfl)
        have q2' := beq_eq_false_iff_ne.mp q2
        have q3' := bne_iff_ne.mp q3
        rename News _ _ _ _ => N'
        simp only [List.push_toArray] at N'
        rw [show nmStep rx [] y = [y] by unfold nmStep; rw [if_neg (by simp [q1', q2']), if_pos (.inl q3')]; rfl]
        exact InvEndN.intro (by assumption) N' ⟨[.str y ty], n + 1, _, _, _, _, rfl, .cons _ _ .nil, rfl, rfl, rfl, rfl, rfl⟩ rfl (fun p hp => List.mem_append_left _ hp) fun p hp => List.mem_cons_of_mem _ hp
      · rename (rx.length : Int) ≠ 0 => q4
        rename (_ == _) = false => q2
        rename (_ != _) = false => q3
        have q3' := bne_eq_false_iff_eq.mp q3
        have q1' : y ≠ Str.ofString "" := by rw [q3']; decide +kernel
        have q2' := beq_eq_false_iff_ne.mp q2
        have q4' : rx ≠ Str.ofString "" := fun z => q4 (by rw [len_zero.mpr z]; rfl)
        rw [show nmStep rx [] y = [] by unfold nmStep; rw [if_neg (by simp [q1', q2']), if_neg (by simp [q3', q4'])]; rfl]
        exact InvEndN.intro (by assumption) (by assumption) ⟨[], n, _, _, _, _, rfl, .nil, rfl, rfl, rfl, rfl, rfl⟩ rfl (fun p hp => List.mem_append_left _ hp) fun p hp => List.mem_append_right _ hp
      · rename (rx.length : Int) = 0 => q4
        rename (_ == _) = false => q2
        rename (_ != _) = false => q3
        have q3' := bne_eq_false_iff_eq.mp q3
        have q1' : y ≠ Str.ofString "" := by rw [q3']; decide +kernel
        have q2' := beq_eq_false_iff_ne.mp q2
        have q4' : rx = Str.ofString "" := len_zero.mp (by omega)
        rename News _ _ _ _ => N'
        simp only [List.push_toArray] at N'
        rw [show nmStep rx [] y = [y] by unfold nmStep; rw [if_neg (by simp [q1', q2']), if_pos (.inr (.inl ⟨q4', rfl⟩))]; rfl]
        exact InvEndN.intro (by assumption) N' ⟨[.str y ty], n + 1, _, _, _, _, rfl, .cons _ _ .nil, rfl, rfl, rfl, rfl, rfl⟩ rfl (fun p hp => List.mem_append_left _ hp) fun p hp => List.mem_cons_of_mem _ hp
      · rename (y.length : Int) = 0 => q1
        rw [show nmStep rx [] y = [] from if_pos (.inl (len_zero.mp (by omega)))]
        exact InvEndN.intro (by assumption) (by assumption) ⟨[], n, _, _, _, _, rfl, .nil, rfl, rfl, rfl, rfl, rfl⟩ rfl (fun p hp => List.mem_append_left _ hp) fun p hp => List.mem_append_right _ hp
    · have hlast : (ki ++ [z]).getLast? = some z := by simp
      (repeat' (first | (k_unfold; (try dsimp only)) | ((((((fail_if_success (with_reducible show wpAny _ _ (exec (Stmt.While _ _ _ _) _) _ _ _)); (fail_if_success (with_reducible show wpAny _ _ (exec (Stmt.For _ _ _ _ _) _) _ _ _)))); (fail_if_success (with_reducible show InvEndN _ _ _ _ _ _ _)); (fail_if_success (with_reducible show wpAny _ _ (binaryOp Operator.Mult (Value.ref _) _) _ _ _)); (fail_if_success (with_reducible show wpAny _ _ (binaryOp Operator.Add (Value.ref _) _) _ _ _)); (fail_if_success (with_reducible show wpAny _ _ (subscriptTail _ _ (Value.ref _) _) _ _ _)); (fail_if_success (with_reducible show wpAny _ _ (call (Value.builtin "list.pop") _) _ _ _)); (fail_if_success (with_reducible show wpAny _ _ (call (Value.builtin _) [Value.str _ _, Value.ref _]) _ _ _)))); (first | walk1 | (dsimp only; walk1)))))
      · rename (_ == _) = true => q2
        have q3 := beq_iff_eq.mp q2
        rw [show nmStep rx (ki ++ [z]) y = ki ++ [z] from if_pos (.inr q3)]
        exact InvEndN.intro (by assumption) (by assumption) ⟨_, n, _, _, _, _, rfl, hu, rfl, rfl, rfl, rfl, rfl⟩ rfl (fun p hp => List.mem_append_left _ hp) fun p hp => List.mem_append_right _ hp
      · rename (_ : Int) ≠ 0 => q1
        rename (_ == _) = false => q2
        rename (_ != _) = true => q3
        have q1' : y ≠ Str.ofString "" := fun z => q1 (by rw [len_zero.mpr z]; rfl)
        have q2' := beq_eq_false_iff_ne.mp q2
        have q3' := bne_iff_ne.mp q3
        rename News _ _ _ _ => N'
        simp only [List.push_toArray] at N'
        rw [show nmStep rx (ki ++ [z]) y = (ki ++ [z]) ++ [y] by unfold nmStep; rw [if_neg (by simp [q1', q2']), if_pos (.inl q3')]]
        exact InvEndN.intro (by assumption) N' ⟨(ui ++ [.str z tz]) ++ [.str y ty], n + 1, _, _, _, _, rfl, hu.append' (.cons _ _ .nil), rfl, rfl, rfl, rfl, rfl⟩ rfl (fun p hp => List.mem_append_left _ hp) fun p hp => List.mem_cons_of_mem _ hp
      all_goals first
        | (rename (y.length : Int) = 0 => q1
           rw [show nmStep rx (ki ++ [z]) y = ki ++ [z] from if_pos (.inl (len_zero.mp (by omega)))]
           exact InvEndN.intro (by assumption) (by assumption) ⟨_, n, _, _, _, _, rfl, hu, rfl, rfl, rfl, rfl, rfl⟩ rfl (fun p hp => List.mem_append_left _ hp) fun p hp => List.mem_append_right _ hp)
        | (rename List.isEmpty _ = true => q; simp at q; done)
        | skip
      all_goals rename News _ _ _ _ => N'
      all_goals rename Fr _ _ _ _ => F'
      all_goals refine item_last ⟨_, (N' _ (.head _)).1, rfl, _, rfl⟩ ?_
      all_goals (repeat' (first | (k_unfold; (try dsimp only)) | ((((((fail_if_success (with_reducible show wpAny _ _ (exec (Stmt.While _ _ _ _) _) _ _ _)); (fail_if_success (with_reducible show wpAny _ _ (exec (Stmt.For _ _ _ _ _) _) _ _ _)))); (fail_if_success (with_reducible show InvEndN _ _ _ _ _ _ _)); (fail_if_success (with_reducible show wpAny _ _ (binaryOp Operator.Mult (Value.ref _) _) _ _ _)); (fail_if_success (with_reducible show wpAny _ _ (binaryOp Operator.Add (Value.ref _) _) _ _ _)); (fail_if_success (with_reducible show wpAny _ _ (subscriptTail _ _ (Value.ref _) _) _ _ _)); (fail_if_success (with_reducible show wpAny _ _ (call (Value.builtin "list.pop") _) _ _ _)); (fail_if_success (with_reducible show wpAny _ _ (call (Value.builtin _) [Value.str _ _, Value.ref _]) _ _ _)))); (first | walk1 | (dsimp only; walk1)))))
      all_goals
        rename (z == _) = _ => q5
        rename (y != _) = false => q3
        rename (y == _) = false => q2
        have q3' := bne_eq_false_iff_eq.mp q3
        have q1' : y ≠ Str.ofString "" := by rw [q3']; decide +kernel
        have q2' := beq_eq_false_iff_ne.mp q2
        rename Fr _ _ _ _ => F'
        rename News _ _ _ _ => N'
      all_goals first
        | (have q5' := beq_iff_eq.mp q5
           simp only [List.push_toArray] at N'
           rw [show nmStep rx (ki ++ [z]) y = (ki ++ [z]) ++ [y] by unfold nmStep; rw [if_neg (by simp [q1', q2']), if_pos (.inr (.inr (by rw [hlast, q5'])))]]
           exact InvEndN.intro F' N' ⟨(ui ++ [.str z tz]) ++ [.str y ty], n + 1, _, _, _, _, rfl, hu.append' (.cons _ _ .nil), rfl, rfl, rfl, rfl, rfl⟩ rfl (fun p hp => List.mem_append_left _ hp) fun p hp => List.mem_cons_of_mem _ hp)
        | (have q5' := beq_eq_false_iff_ne.mp q5
           rw [show nmStep rx (ki ++ [z]) y = ki by unfold nmStep; rw [if_neg (by simp [q1', q2']), if_neg (by simp [q3', q5'])]; simp]
           dsimp only
           refine' kl_pop (p := ui) (y := .str z tz) ?F9 ?N9 (kpa_last _ _) (.head (hoff.ne (.head _))) ?z9 ?_
           case F9 => exact F'
           case N9 => exact N'
           case z9 => (rw [sizeLine_eq]; exact Nat.le_trans hul (by decide))
           clear F' N'
           intro h9 F' N'
           (repeat' (first | (k_unfold; (try dsimp only)) | ((((((fail_if_success (with_reducible show wpAny _ _ (exec (Stmt.While _ _ _ _) _) _ _ _)); (fail_if_success (with_reducible show wpAny _ _ (exec (Stmt.For _ _ _ _ _) _) _ _ _)))); (fail_if_success (with_reducible show InvEndN _ _ _ _ _ _ _)); (fail_if_success (with_reducible show wpAny _ _ (binaryOp Operator.Mult (Value.ref _) _) _ _ _)); (fail_if_success (with_reducible show wpAny _ _ (binaryOp Operator.Add (Value.ref _) _) _ _ _)); (fail_if_success (with_reducible show wpAny _ _ (subscriptTail _ _ (Value.ref _) _) _ _ _)); (fail_if_success (with_reducible show wpAny _ _ (call (Value.builtin "list.pop") _) _ _ _)); (fail_if_success (with_reducible show wpAny _ _ (call (Value.builtin _) [Value.str _ _, Value.ref _]) _ _ _)))); (first | walk1 | (dsimp only; walk1)))))
           rename Fr _ _ _ _ => F'
           rename News _ _ _ _ => N'
           exact InvEndN.intro F' N' ⟨ui, n + 1, _, _, _, _, rfl, hu', rfl, rfl, rfl, rfl, rfl⟩ rfl (fun p hp => List.mem_append_left _ hp) fun p hp => List.mem_cons_of_mem _ hp)
  · clear F' N' N₀ hl hCL l1
    rintro m₁ nx h₁ tk₁ ⟨us, n, tr, t1, t2, t3, rfl, hu, e1, e2, e3, e4, e5⟩ F₁ N₁
    rw [show vs.length = zs.length from hs.length, List.take_length] at hu
    have hfi := nmFold_inv rx zs []
    have F₂ := nam5 F₁ e1 e2 e3 e4 e5
    clear F₁ e1 e2 e3 e4 e5
    generalize zs.foldl (nmStep rx) [] = ks at hu hfi ret
    obtain ⟨hf1, hf2⟩ := hfi
    simp only [List.length_nil, Nat.zero_add] at hf1
    have hf3 : ∀ k ∈ ks, k.length ≤ 64 := fun k hk => (hf2 k hk).elim (fun h => nomatch h) fun h => Nat.le_trans (hshort k h) ht
    clear hf2
    have hsum := sum_le hf3
    have hul : us.length ≤ 65 := by rw [hu.length]; omega
    (repeat' (first | (k_unfold; (try dsimp only)) | ((((((fail_if_success (with_reducible show wpAny _ _ (exec (Stmt.While _ _ _ _) _) _ _ _)); (fail_if_success (with_reducible show wpAny _ _ (exec (Stmt.For _ _ _ _ _) _) _ _ _)))); (fail_if_success (with_reducible show InvEndN _ _ _ _ _ _ _)); (fail_if_success (with_reducible show wpAny _ _ (binaryOp Operator.Mult (Value.ref _) _) _ _ _)); (fail_if_success (with_reducible show wpAny _ _ (binaryOp Operator.Add (Value.ref _) _) _ _ _)); (fail_if_success (with_reducible show wpAny _ _ (subscriptTail _ _ (Value.ref _) _) _ _ _)); (fail_if_success (with_reducible show wpAny _ _ (call (Value.builtin "list.pop") _) _ _ _)); (fail_if_success (with_reducible show wpAny _ _ (call (Value.builtin _) [Value.str _ _, Value.ref _]) _ _ _)))); (first | walk1 | (dsimp only; walk1)))))
    rename Fr _ _ _ _ => F'
    rename News _ _ _ _ => N'
    refine' join_listW ?l6 ?s6 (by decide +kernel) ?z6 ?_
    case l6 => exact ⟨_, (N' _ (.head _)).1, rfl, _, rfl⟩
    case s6 => exact hu
    case z6 => omega
    intro t' k'
    have hjl := join_len (Str.ofString "/") ks
    rw [tjoin]
    rw [show (Str.ofString "/").length = 1 from rfl] at hjl
    generalize hJ : Str.join (Str.ofString "/") ks = J at *
    have hJ2 : J.length ≤ 8000 := by omega
    clear hjl
    (repeat' (first | (k_unfold; (try dsimp only)) | ((((fail_if_success (with_reducible show wpAny _ _ (exec (Stmt.While _ _ _ _) _) _ _ _)); (fail_if_success (with_reducible show wpAny _ _ (exec (Stmt.For _ _ _ _ _) _) _ _ _)))); (first | walk1 | (dsimp only; walk1)))))
    · rename ((_ : Nat) : Int) ≠ 0 => q
      have q' : rx ++ J ≠ Str.ofString "" := fun z => q (by rw [len_zero.mpr z]; rfl)
      refine ret.eq ?_ _ _ _ (Back.fr (by assumption) (by assumption)) (Back.news (by assumption) (by assumption))
      rw [if_neg q']
    · rename ((_ : Nat) : Int) = 0 => q
      have q' : rx ++ J = Str.ofString "" := len_zero.mp (by omega)
      refine ret.eq ?_ _ _ _ (Back.fr (by assumption) (by assumption)) (Back.news (by assumption) (by assumption))
      rw [if_pos q']
end

-- part names
theorem reset_names : True := by w_top off; trivial
/-- what _law_names gathers -/
noncomputable def lnm (sp : Nat → Nat × Nat) (x : Str) : Nat → Nat → List Str → Nat × List Str
  | 0, at', ns => (at', ns)
  | n + 1, at', ns => if (sp at').2 ≠ 0 ∧ ns.length ≤ x.length then lnm sp x n (sp at').1 (ns ++ [Txt.slice x (some ((sp at').1 : Nat)) (some ((sp at').2 : Nat))]) else (at', ns)
noncomputable def namesS (opn clo : List Nat → Nat → Int) (x : Str) : Nat × List Str := lnm (spn opn clo (cs x)) x (x.length + 2) x.length []
theorem spn_le {opn clo : List Nat → Nat → Int} (G : Good opn clo) (l : List Nat) (col : Nat) : (spn opn clo l col).1 ≤ l.length ∧ (spn opn clo l col).2 ≤ l.length := by
  have key : ∀ (n : Nat) (c : Nat × Nat) (f : Option (Nat × Nat)), c.1 ≤ l.length ∧ c.2 ≤ l.length → (∀ d, f = some d → d.1 ≤ l.length ∧ d.2 ≤ l.length) → ∀ d, srl (nxt opn clo l) col n c f = some d → d.1 ≤ l.length ∧ d.2 ≤ l.length := by
    intro n
    induction n with
    | zero => intro c f hc hf d h; exact hf d h
    | succ n ih =>
      intro c f hc hf d h
      unfold srl at h
      split at h
      · split at h
        · rw [← Option.some.inj h]; exact hc
        · rename_i c' hn
          refine ih c' (some c) ?_ (fun d e => by rw [← Option.some.inj e]; exact hc) d h
          by_cases hz : opn l c.2 < 0
          · rw [nxt_none hz] at hn; cases hn
          · obtain ⟨j, e1, e2, b1, b2, b3⟩ := G.nx (l := l) (a := c.2) (i := (opn l c.2).toNat) hc.2 (by omega)
            rw [e2] at hn
            rw [← Option.some.inj hn]
            exact ⟨by dsimp only; omega, b3⟩
      · exact hf d h
  unfold spn
  cases h : sr opn clo l col with
  | none => exact ⟨Nat.zero_le _, Nat.zero_le _⟩
  | some d =>
    unfold sr at h
    split at h
    · cases h
    · rename_i c hn
      refine key _ c none ?_ (fun _ e => nomatch e) d h
      by_cases hz : opn l 0 < 0
      · rw [nxt_none hz] at hn; cases hn
      · obtain ⟨j, e1, e2, b1, b2, b3⟩ := G.nx (l := l) (a := 0) (i := (opn l 0).toNat) (Nat.zero_le _) (by omega)
        rw [e2] at hn
        rw [← Option.some.inj hn]
        exact ⟨by dsimp only; omega, b3⟩
section
variable {w : World} {dp un : Nat} {fr : Option (List Env)} {gd : Option (List Code)} {s : Shared} {Q E : Value → Shared → Prop} {loose : List Str} {mean : ExcName → Option Value} {mg mb : Str → Option Value} {h₀ : Heap} {L : Addr} {m : Str → Option Value} {own T : List (Addr × Obj)}
  (F : Fr h₀ L s.heap m) (N : News h₀ L s.heap (own ++ T)) (X : (hd.heap_1 w.params).In h₀) (Tp : Top topProg loose mean mg mb h₀) (HT : TabL T) (hoff : ∀ p ∈ own, ∀ q ∈ T, p.1 ≠ q.1) {pr : Addr} {opn clo : List Nat → Nat → Int} {x : Str} {tx : Tok} (hx : x.length ≤ 64)
include F N X Tp HT hoff hx
set_option maxHeartbeats 8000000 in
theorem names_ok (G : Good opn clo) (hP : Prg w loose mean mg mb (hideAll s.heap (T.map (·.1))) pr opn clo) (hdp : dp + 10 < recursionLimit)
    (ret : ∀ (a l' : Addr) (t1 : Tok) (vs : List Value) (n : Nat) T' h' tk', StrsAre vs (namesS opn clo x).2 → TabL T' → Tle T T' → Fr h₀ L h' m → News h₀ L h' (((a, tupObj [.int ((namesS opn clo x).1 : Nat) t1, .ref l']) :: (l', W.listOf vs.toArray n) :: own) ++ T') → (∀ p ∈ (a, tupObj [.int ((namesS opn clo x).1 : Nat) t1, .ref l']) :: (l', W.listOf vs.toArray n) :: own, ∀ q ∈ T', p.1 ≠ q.1) → Q (.ref a) { s with heap := h', toks := tk' }) :
    wpAny (model PR w) (Ar dp fr gd un) (call (.ref 240) [.ref pr, .str x tx]) Q E s := by
  k_dflt (refine' enterT F N X Tp hoff ?k6 ?k7 ?k8 ?k9 ?kB ?_ ?c2 ?c3 ?c4 ?c5; (case k6 => k_is); (case k7 => k_is); (case k8 => (dsimp only; omega)); (case k9 => exact BindsTo.of_eq rfl); (case c5 => decide); (case kB => exact locs rfl); (case c2 => exact rfl); (case c3 => exact rfl); (case c4 => exact rfl); k_whole)
  clear F N X Tp hoff
  intro L' h₁ X Tp back _ F' N'
  (repeat' (first | (k_unfold; (try dsimp only)) | ((((((fail_if_success (with_reducible show wpAny _ _ (exec (Stmt.While _ _ _ _) _) _ _ _)); (fail_if_success (with_reducible show wpAny _ _ (exec (Stmt.For _ _ _ _ _) _) _ _ _)))); (fail_if_success (with_reducible show InvEndN _ _ _ _ _ _ _)); (fail_if_success (with_reducible show wpAny _ _ (binaryOp Operator.Mult (Value.ref _) _) _ _ _)); (fail_if_success (with_reducible show wpAny _ _ (binaryOp Operator.Add (Value.ref _) _) _ _ _)); (fail_if_success (with_reducible show wpAny _ _ (subscriptTail _ _ (Value.ref _) _) _ _ _)); (fail_if_success (with_reducible show wpAny _ _ (call (Value.builtin "list.pop") _) _ _ _)); (fail_if_success (with_reducible show wpAny _ _ (call (Value.builtin _) [Value.str _ _, Value.ref _]) _ _ _)))); (first | walk1 | (dsimp only; walk1)))))
  have hlen := cs_len x
  have fin : ∀ (a l' : Addr) (t1 : Tok) (us : List Value) (k at' : Nat) (ns : List Str) (T₁ : List (Addr × Obj)) (mm : Str → Option Value) (h' : Heap) (tk' : Nat), Fr (hideAll s.heap (T.map (·.1))) L' h' mm → News (hideAll s.heap (T.map (·.1))) L' h' ((a, tupObj [.int (at' : Nat) t1, .ref l']) :: ([(l', W.listOf (List.toArray us) k)] ++ T₁)) → TabL T₁ → Tle T T₁ → StrsAre us ns → (at', ns) = namesS opn clo x → Q (.ref a) { s with heap := h', toks := tk' } := by
    intro a l' t1 us k at' ns T₁ mm h' tk' F' N' HT₁ le₁ hs hij
    rw [← hij] at ret
    have N'' : News _ L' h' ([_, _] ++ T₁) := N'
    obtain ⟨FR, NR, OF⟩ := back.out F' N'' (fun _ hp => hp)
    exact ret a l' t1 us k T₁ _ _ hs HT₁ le₁ FR (news_perm NR) (off_perm NR HT₁ (List.forall_mem_cons.mpr ⟨rfl, List.forall_mem_cons.mpr ⟨rfl, fun _ h => nomatch h⟩⟩) OF)
  clear ret
  rename Fr _ _ _ _ => F'
  rename News _ _ _ _ => N'
  rename_i l' _ _ _ _ _
  have hoff1 : ∀ p ∈ [(l', W.listOf (List.toArray []) 0)], ∀ q ∈ T, p.1 ≠ q.1 := off_of (T := T) N' HT.bad (fun p hp => .tail _ hp) (fun p hp => ⟨by rw [List.mem_singleton.mp hp]; exact .head _, by rw [List.mem_singleton.mp hp]; rfl⟩)
  refine law_span_ok (own := [_]) F' N' X Tp HT hoff1 hx G hP (by omega) (by dsimp only [Around.deeper, Around.in1, Around.mark]; omega) ?_
  clear F' N'
  intro a t1 t2 T₁ h9 tk9 HT₁ le₁ F' N' off'
  (repeat' (first | (k_unfold; (try dsimp only)) | ((((((fail_if_success (with_reducible show wpAny _ _ (exec (Stmt.While _ _ _ _) _) _ _ _)); (fail_if_success (with_reducible show wpAny _ _ (exec (Stmt.For _ _ _ _ _) _) _ _ _)))); (fail_if_success (with_reducible show InvEndN _ _ _ _ _ _ _)); (fail_if_success (with_reducible show wpAny _ _ (binaryOp Operator.Mult (Value.ref _) _) _ _ _)); (fail_if_success (with_reducible show wpAny _ _ (binaryOp Operator.Add (Value.ref _) _) _ _ _)); (fail_if_success (with_reducible show wpAny _ _ (subscriptTail _ _ (Value.ref _) _) _ _ _)); (fail_if_success (with_reducible show wpAny _ _ (call (Value.builtin "list.pop") _) _ _ _)); (fail_if_success (with_reducible show wpAny _ _ (call (Value.builtin _) [Value.str _ _, Value.ref _]) _ _ _)))); (first | walk1 | (dsimp only; walk1)))))
  rename Fr _ _ _ _ => F'
  rename News _ _ _ _ => N'
  have N₁ : News _ L' _ ([(l', W.listOf (List.toArray []) 0)] ++ T₁) := fun p hp => N' p (List.mem_cons_of_mem _ hp)
  clear N' hoff1
  refine While_inv2 (fun n m₁ news₁ => ∃ (us : List Value) (k at' : Nat) (ns : List Str) (T₁ : List (Addr × Obj)) (t1 t2 t3 t4 : Tok), news₁ = [(l', W.listOf (List.toArray us) k)] ++ T₁ ∧ TabL T₁ ∧ Tle T T₁ ∧ (∀ p ∈ T₁, p.1 ≠ l') ∧ StrsAre us ns ∧ at' ≤ (cs x).length ∧ lnm (spn opn clo (cs x)) x n at' ns = namesS opn clo x ∧ n + ns.length = x.length + 2 ∧ ns.length ≤ x.length + 1 ∧
      m₁ (Str.ofString "program") = some (.ref pr) ∧ m₁ (Str.ofString "chars") = some (.str x t3) ∧ m₁ (Str.ofString "names") = some (.ref l') ∧ m₁ (Str.ofString "at") = some (.int (at' : Nat) t4) ∧ m₁ (Str.ofString "begin") = some (.int ((spn opn clo (cs x) at').1 : Nat) t1) ∧ m₁ (Str.ofString "end") = some (.int ((spn opn clo (cs x) at').2 : Nat) t2))
    F' N₁ ⟨[], 0, x.length, [], T₁, _, _, _, _, rfl, HT₁, le₁, fun p hp => ?ho, .nil, by omega, rfl, rfl, by simp, rfl, rfl, rfl, rfl, rfl, rfl⟩ ?_
  case ho => exact (off' _ (.tail _ (.head _)) p hp).symm
  clear F' N₁ HT₁ le₁ off' t1 t2 T₁
  rintro n m₁ news₁ h₁ tk₁ F₁ N₁ ⟨us, k, at', ns, T₁, t1, t2, t3, t4, rfl, HT₁, le₁, ho, hs, b1, b2, b3, b4, e1, e2, e3, e4, e5, e6⟩
  have F₂ := nam6 F₁ e1 e2 e3 e4 e5 e6
  clear F₁ e1 e2 e3 e4 e5 e6
  have hul : us.length ≤ 65 := by rw [hs.length]; omega
  have husl : us.length = ns.length := hs.length
  obtain ⟨hb1, hb2⟩ := spn_le G (cs x) at'
  generalize hsp : spn opn clo (cs x) at' = sp at *
  obtain ⟨bb, ee⟩ := sp
  dsimp only at hb1 hb2 F₂
  have hn : ∃ n', n = n' + 1 := ⟨n - 1, by omega⟩
  obtain ⟨n, rfl⟩ := hn
  (repeat' (first | (k_unfold; (try dsimp only)) | ((((((fail_if_success (with_reducible show wpAny _ _ (exec (Stmt.While _ _ _ _) _) _ _ _)); (fail_if_success (with_reducible show wpAny _ _ (exec (Stmt.For _ _ _ _ _) _) _ _ _)))); (fail_if_success (with_reducible show InvEndN _ _ _ _ _ _ _)); (fail_if_success (with_reducible show wpAny _ _ (binaryOp Operator.Mult (Value.ref _) _) _ _ _)); (fail_if_success (with_reducible show wpAny _ _ (binaryOp Operator.Add (Value.ref _) _) _ _ _)); (fail_if_success (with_reducible show wpAny _ _ (subscriptTail _ _ (Value.ref _) _) _ _ _)); (fail_if_success (with_reducible show wpAny _ _ (call (Value.builtin "list.pop") _) _ _ _)); (fail_if_success (with_reducible show wpAny _ _ (call (Value.builtin _) [Value.str _ _, Value.ref _]) _ _ _)))); (first | walk1 | (dsimp only; walk1)))))
  · rename StrsAre _ _ => hs
    rename (ee : Int) ≠ 0 => q1
    rename (_ : Int) ≤ _ => q2
    rename Fr _ _ _ _ => F'
    rename News _ _ _ _ => N'
    refine' W.append_K ?F5 ?N5 ?U5 ?_ ?z5
    case F5 => exact F'
    case N5 => exact N'
    case U5 => exact .head (fun p hp => ho p hp)
    case z5 => (rw [sizeLine_eq]; exact Nat.le_trans hul (by decide))
    clear F' N'
    intro h10 F' N'
    simp only [List.push_toArray] at N'
    (repeat' (first | (k_unfold; (try dsimp only)) | ((((((fail_if_success (with_reducible show wpAny _ _ (exec (Stmt.While _ _ _ _) _) _ _ _)); (fail_if_success (with_reducible show wpAny _ _ (exec (Stmt.For _ _ _ _ _) _) _ _ _)))); (fail_if_success (with_reducible show InvEndN _ _ _ _ _ _ _)); (fail_if_success (with_reducible show wpAny _ _ (binaryOp Operator.Mult (Value.ref _) _) _ _ _)); (fail_if_success (with_reducible show wpAny _ _ (binaryOp Operator.Add (Value.ref _) _) _ _ _)); (fail_if_success (with_reducible show wpAny _ _ (subscriptTail _ _ (Value.ref _) _) _ _ _)); (fail_if_success (with_reducible show wpAny _ _ (call (Value.builtin "list.pop") _) _ _ _)); (fail_if_success (with_reducible show wpAny _ _ (call (Value.builtin _) [Value.str _ _, Value.ref _]) _ _ _)))); (first | walk1 | (dsimp only; walk1)))))
    rename Fr _ _ _ _ => F'
    rename News _ _ _ _ => N'
    refine law_span_ok (own := [_]) F' N' X Tp HT₁ ?hq hx G hP (by omega) (by dsimp only [Around.deeper, Around.in1, Around.mark]; omega) ?_
    case hq => exact List.forall_mem_cons.mpr ⟨fun q hq => (ho q hq).symm, fun _ h => nomatch h⟩
    clear F' N'
    intro a t1 t2 T₂ h9 tk9 HT₂ le₂ F' N' off'
    (repeat' (first | (k_unfold; (try dsimp only)) | ((((((fail_if_success (with_reducible show wpAny _ _ (exec (Stmt.While _ _ _ _) _) _ _ _)); (fail_if_success (with_reducible show wpAny _ _ (exec (Stmt.For _ _ _ _ _) _) _ _ _)))); (fail_if_success (with_reducible show InvEndN _ _ _ _ _ _ _)); (fail_if_success (with_reducible show wpAny _ _ (binaryOp Operator.Mult (Value.ref _) _) _ _ _)); (fail_if_success (with_reducible show wpAny _ _ (binaryOp Operator.Add (Value.ref _) _) _ _ _)); (fail_if_success (with_reducible show wpAny _ _ (subscriptTail _ _ (Value.ref _) _) _ _ _)); (fail_if_success (with_reducible show wpAny _ _ (call (Value.builtin "list.pop") _) _ _ _)); (fail_if_success (with_reducible show wpAny _ _ (call (Value.builtin _) [Value.str _ _, Value.ref _]) _ _ _)))); (first | walk1 | (dsimp only; walk1)))))
    rename Fr _ _ _ _ => F'
    rename News _ _ _ _ => N'
    refine ⟨_, _, _, _, n, rfl, F', fun p hp => N' p (List.mem_cons_of_mem _ hp), by omega, _, _, bb, ns ++ [Txt.slice x (some (bb : Int)) (some (ee : Int))], T₂, _, _, _, _, rfl, HT₂, le₁.trans le₂, fun p hp => (off' _ (.tail _ (.head _)) p hp).symm, hs.append' (.cons _ _ .nil), hb1, ?_, ?_, ?_, rfl, rfl, rfl, rfl, rfl, rfl⟩
    · rw [← b2, lnm, hsp, if_pos ⟨by dsimp only; omega, by omega⟩]
    · rw [List.length_append]; simp only [List.length_cons, List.length_nil]; omega
    · rw [List.length_append]; simp only [List.length_cons, List.length_nil]; omega
  · rename StrsAre _ _ => hs
    rename ¬ (_ : Int) ≤ _ => q2
    exact fin _ _ _ _ _ _ _ _ _ _ _ (by assumption) (by assumption) HT₁ le₁ hs (by rw [← b2, lnm, if_neg (by rw [hsp]; omega)])
  · rename StrsAre _ _ => hs
    rename (ee : Int) = 0 => q2
    exact fin _ _ _ _ _ _ _ _ _ _ _ (by assumption) (by assumption) HT₁ le₁ hs (by rw [← b2, lnm, if_neg (by rw [hsp]; dsimp only; omega)])
end

-- part alike
theorem reset_alike : True := by w_top off; trivial
/-- how many are alike at the front -/
noncomputable def alike : List Str → List Str → Nat
  | a :: r, b :: q => if a = b then alike r q + 1 else 0
  | _, _ => 0
theorem alike_step : ∀ (xs ys : List Str) (k : Nat), (∀ j, j < k → ∃ a, xs[j]? = some a ∧ ys[j]? = some a) → (∀ a, xs[k]? = some a → ys[k]? ≠ some a) → alike xs ys = k
  | [], ys, k, h1, _ => by
    cases k with
    | zero => cases ys <;> rfl
    | succ k => obtain ⟨a, e, _⟩ := h1 0 (by omega); simp at e
  | x :: r, [], k, h1, _ => by
    cases k with
    | zero => rfl
    | succ k => obtain ⟨a, _, e⟩ := h1 0 (by omega); simp at e
  | x :: r, y :: q, k, h1, h2 => by
    cases k with
    | zero =>
      rw [alike, if_neg (fun e => h2 x (by simp) (by simp [e]))]
    | succ k =>
      obtain ⟨a, e1, e2⟩ := h1 0 (by omega)
      simp at e1 e2
      rw [alike, if_pos (e1.trans e2.symm), alike_step r q k (fun j hj => by simpa using h1 (j + 1) (by omega)) (fun a => by simpa using h2 a)]
theorem item_strs {prog : Program} {w : World} {A : Around} {E : Value → Shared → Prop} {s : Shared} {value slice : Expr} {l : Addr} {vs : List Value} {xs : List Str} {k : Nat} {y : Str} {u : Tok} {Q : Value → Shared → Prop} (hl : s.heap.IsList l vs.toArray) (hs : StrsAre vs xs) (hy : xs[k]? = some y) (hk : k ≤ 1000) (h : ∀ t, Q (.str y t) s)
    (hs' : subscripted slice false (.ref l) (.int (k : Nat) u) = operate [.ref l, .int (k : Nat) u] (getItem (.ref l) (.int (k : Nat) u)) := by with_unfolding_all rfl) (hg : ∀ r, letTemporaryGo value (.ref l) r = pure () := by intro _; with_unfolding_all rfl) :
    wpAny (model prog w) A (subscriptTail value slice (.ref l) (.int (k : Nat) u)) Q E s := by
  obtain ⟨t, ht⟩ := hs.get k y hy
  exact subscriptTail_builtin hl.typeIs slot_list_getitem.lookup (wpAny_getItem_list hl (by omega) (by omega) (by simpa using ht) (h t)) hs' hg
section
variable {w : World} {dp un : Nat} {fr : Option (List Env)} {gd : Option (List Code)} {s : Shared} {Q E : Value → Shared → Prop} {loose : List Str} {mean : ExcName → Option Value} {mg mb : Str → Option Value} {h₀ : Heap} {L : Addr} {m : Str → Option Value} {news : List (Addr × Obj)}
  (F : Fr h₀ L s.heap m) (N : News h₀ L s.heap news) (X : (hd.heap_1 w.params).In h₀) (T : Top topProg loose mean mg mb h₀) {l l2 : Addr} {vs us : List Value} {xs ys : List Str}
include F N X T
set_option maxHeartbeats 8000000 in
theorem alike_ok (hl : s.heap.IsList l vs.toArray) (hs : StrsAre vs xs) (hl2 : s.heap.IsList l2 us.toArray) (hs2 : StrsAre us ys) (hn : xs.length ≤ 64) (hn2 : ys.length ≤ 64) (hx : ∀ x ∈ xs, x.length ≤ 64) (hy : ∀ x ∈ ys, x.length ≤ 64) (hdp : dp + 2 < recursionLimit) (ret : RetI h₀ L m news s Q (alike xs ys : Nat)) : wpAny (model PR w) (Ar dp fr gd un) (call (.ref 254) [.ref l, .ref l2]) Q E s := by
  ((k_dflt (refine' enterC (by assumption) (by assumption) (by assumption) (by assumption) ?k6 ?k7 ?k8 ?k9 ?kB ?_ ?c2 ?c3 ?c4 ?c5; (case k6 => k_is); (case k7 => k_is); (case k8 => (dsimp only; omega)); (case k9 => exact BindsTo.of_eq rfl); (case c5 => decide); (case kB => exact locs rfl); (case c2 => exact rfl); (case c3 => exact rfl); (case c4 => exact rfl); k_whole; intros; (try dsimp only); (try k_fold))))
  clear F N X T
  (repeat' (first | (k_unfold; (try dsimp only)) | ((((((fail_if_success (with_reducible show wpAny _ _ (exec (Stmt.While _ _ _ _) _) _ _ _)); (fail_if_success (with_reducible show wpAny _ _ (exec (Stmt.For _ _ _ _ _) _) _ _ _)))); (fail_if_success (with_reducible show InvEndN _ _ _ _ _ _ _)); (fail_if_success (with_reducible show wpAny _ _ (binaryOp Operator.Mult (Value.ref _) _) _ _ _)); (fail_if_success (with_reducible show wpAny _ _ (binaryOp Operator.Add (Value.ref _) _) _ _ _)); (fail_if_success (with_reducible show wpAny _ _ (subscriptTail _ _ (Value.ref _) _) _ _ _)); (fail_if_success (with_reducible show wpAny _ _ (call (Value.builtin "list.pop") _) _ _ _)); (fail_if_success (with_reducible show wpAny _ _ (call (Value.builtin _) [Value.str _ _, Value.ref _]) _ _ _)))); (first | walk1 | (dsimp only; walk1)))))
  rename Fr _ _ _ _ => F'
  rename News _ _ _ _ => N'
  refine While_inv2 (fun n m₁ news₁ => news₁ = [] ∧ ∃ (k : Nat) (tk : Tok), m₁ (Str.ofString "one") = some (.ref l) ∧ m₁ (Str.ofString "two") = some (.ref l2) ∧ m₁ (Str.ofString "count") = some (.int (k : Nat) tk) ∧ n = xs.length - k ∧ k ≤ xs.length ∧ ∀ j, j < k → ∃ a, xs[j]? = some a ∧ ys[j]? = some a)
    F' N' ⟨rfl, 0, _, rfl, rfl, rfl, rfl, by omega, fun j hj => by omega⟩ ?_
  clear F' N'
  rintro n m₁ news₁ h₁ tk₁ F₁ N₁ ⟨rfl, k, tk, e1, e2, e3, rfl, b1, b2⟩
  have F₂ := nam3 F₁ e1 e2 e3
  clear F₁ e1 e2 e3
  (repeat' (first | (k_unfold; (try dsimp only)) | ((((((fail_if_success (with_reducible show wpAny _ _ (exec (Stmt.While _ _ _ _) _) _ _ _)); (fail_if_success (with_reducible show wpAny _ _ (exec (Stmt.For _ _ _ _ _) _) _ _ _)))); (fail_if_success (with_reducible show InvEndN _ _ _ _ _ _ _)); (fail_if_success (with_reducible show wpAny _ _ (binaryOp Operator.Mult (Value.ref _) _) _ _ _)); (fail_if_success (with_reducible show wpAny _ _ (binaryOp Operator.Add (Value.ref _) _) _ _ _)); (fail_if_success (with_reducible show wpAny _ _ (subscriptTail _ _ (Value.ref _) _) _ _ _)); (fail_if_success (with_reducible show wpAny _ _ (call (Value.builtin "list.pop") _) _ _ _)); (fail_if_success (with_reducible show wpAny _ _ (call (Value.builtin _) [Value.str _ _, Value.ref _]) _ _ _)))); (first | walk1 | (dsimp only; walk1)))))
  · rename (k : Int) < (xs.length : Int) => q1
    rename (k : Int) < (ys.length : Int) => q2
    rename StrsAre us ys => hs2
    rename StrsAre vs xs => hs1
    have hk1 : k < xs.length := by omega
    have hk2 : k < ys.length := by omega
    have hlx := hx _ (List.getElem_mem hk1)
    have hly := hy _ (List.getElem_mem hk2)
    have hgx : xs[k]? = some xs[k] := by simp [hk1]
    have hgy : ys[k]? = some ys[k] := by simp [hk2]
    rename Fr _ _ _ _ => F'
    generalize xs[k] = x at *
    generalize ys[k] = y at *
    refine item_strs (hl.at fun o e => F'.keep _ _ e) hs1 hgx (by omega) ?_
    intro t1
    (repeat' (first | (k_unfold; (try dsimp only)) | ((((((fail_if_success (with_reducible show wpAny _ _ (exec (Stmt.While _ _ _ _) _) _ _ _)); (fail_if_success (with_reducible show wpAny _ _ (exec (Stmt.For _ _ _ _ _) _) _ _ _)))); (fail_if_success (with_reducible show InvEndN _ _ _ _ _ _ _)); (fail_if_success (with_reducible show wpAny _ _ (binaryOp Operator.Mult (Value.ref _) _) _ _ _)); (fail_if_success (with_reducible show wpAny _ _ (binaryOp Operator.Add (Value.ref _) _) _ _ _)); (fail_if_success (with_reducible show wpAny _ _ (subscriptTail _ _ (Value.ref _) _) _ _ _)); (fail_if_success (with_reducible show wpAny _ _ (call (Value.builtin "list.pop") _) _ _ _)); (fail_if_success (with_reducible show wpAny _ _ (call (Value.builtin _) [Value.str _ _, Value.ref _]) _ _ _)))); (first | walk1 | (dsimp only; walk1)))))
    rename Fr _ _ _ _ => F'
    refine item_strs (hl2.at fun o e => F'.keep _ _ e) hs2 hgy (by omega) ?_
    intro t2
    (repeat' (first | (k_unfold; (try dsimp only)) | ((((((fail_if_success (with_reducible show wpAny _ _ (exec (Stmt.While _ _ _ _) _) _ _ _)); (fail_if_success (with_reducible show wpAny _ _ (exec (Stmt.For _ _ _ _ _) _) _ _ _)))); (fail_if_success (with_reducible show InvEndN _ _ _ _ _ _ _)); (fail_if_success (with_reducible show wpAny _ _ (binaryOp Operator.Mult (Value.ref _) _) _ _ _)); (fail_if_success (with_reducible show wpAny _ _ (binaryOp Operator.Add (Value.ref _) _) _ _ _)); (fail_if_success (with_reducible show wpAny _ _ (subscriptTail _ _ (Value.ref _) _) _ _ _)); (fail_if_success (with_reducible show wpAny _ _ (call (Value.builtin "list.pop") _) _ _ _)); (fail_if_success (with_reducible show wpAny _ _ (call (Value.builtin _) [Value.str _ _, Value.ref _]) _ _ _)))); (first | walk1 | (dsimp only; walk1)))))
    · rename (_ == _) = true => q
      have q' := beq_iff_eq.mp q
      refine ⟨_, _, _, _, _, rfl, by assumption, by assumption, ?_, rfl, k + 1, _, rfl, rfl, by rfl, rfl, by omega, fun j hj => ?_⟩
      · omega
      · by_cases hjk : j = k
        · subst hjk; exact ⟨x, hgx, by rw [hgy, q']⟩
        · exact b2 j (by omega)
    · rename (_ == _) = false => q
      have q' := beq_eq_false_iff_ne.mp q
      refine ret.eq ?_ _ _ _ (Back.fr (by assumption) (by assumption)) (Back.news (by assumption) (by assumption))
      rw [alike_step xs ys k b2 (fun a e1 e2 => q' (by rw [hgx] at e1; rw [hgy] at e2; rw [Option.some.inj e1, Option.some.inj e2]))]
  · rename ¬ (k : Int) < (ys.length : Int) => q2
    refine ret.eq ?_ _ _ _ (Back.fr (by assumption) (by assumption)) (Back.news (by assumption) (by assumption))
    rw [alike_step xs ys k b2 (fun a e1 e2 => by rw [List.getElem?_eq_none (by omega)] at e2; cases e2)]
  · rename ¬ (k : Int) < (xs.length : Int) => q2
    refine ret.eq ?_ _ _ _ (Back.fr (by assumption) (by assumption)) (Back.news (by assumption) (by assumption))
    rw [alike_step xs ys k b2 (fun a e1 e2 => by rw [List.getElem?_eq_none (by omega)] at e1; cases e1)]
end

-- part pure2
theorem reset_pure2 : True := by w_top off; trivial
/-! the last match of a program of matches -/
structure Mat (len : Nat) (M : Nat → Nat → Prop) (nx : Nat → Option (Nat × Nat)) : Prop where
  fit : ∀ i j, M i j → i < j ∧ j ≤ len
  ord : ∀ i j i' j', M i j → M i' j' → i < i' → j ≤ i'
  fn : ∀ i j j', M i j → M i j' → j = j'
  nn : ∀ a, (a = 0 ∨ ∃ i, M i a) → nx a = none → ∀ i j, M i j → i < a
  sm : ∀ a i j, (a = 0 ∨ ∃ i, M i a) → nx a = some (i, j) → M i j ∧ a ≤ i ∧ ∀ i' j', M i' j' → a ≤ i' → i ≤ i'
/-- the last match within col -/
noncomputable def LastM (M : Nat → Nat → Prop) (col : Nat) (r : Option (Nat × Nat)) : Prop := match r with
  | none => ∀ i j, M i j → ¬ (i < col ∧ j ≤ col)
  | some (i, j) => M i j ∧ i < col ∧ j ≤ col ∧ ∀ i' j', M i' j' → i' < col → j' ≤ col → i' ≤ i
theorem Mat.srlM {len : Nat} {M : Nat → Nat → Prop} {nx : Nat → Option (Nat × Nat)} (H : Mat len M nx) (col : Nat) : ∀ (n : Nat) (c : Nat × Nat) (f : Option (Nat × Nat)), M c.1 c.2 → len + 1 ≤ n + c.2 →
    (∀ i j, M i j → i < c.1 → ∃ d, f = some d ∧ i ≤ d.1) → (∀ d, f = some d → M d.1 d.2 ∧ d.1 < col ∧ d.2 ≤ col) → LastM M col (Mine.srl nx col n c f) := by
  intro n
  induction n with
  | zero =>
    intro c f hM hn _ _
    have := (H.fit _ _ hM).2
    omega
  | succ n ih =>
    intro c f hM hn h1 h2
    unfold Mine.srl
    split
    · rename_i hc
      have hcur : ∀ i j, M i j → i < c.2 → i ≤ c.1 := fun i j h hi => by
        rcases Nat.lt_or_ge c.1 i with q | q
        · have := H.ord _ _ _ _ hM h q; omega
        · exact q
      split
      · rename_i hnx
        refine ⟨hM, hc.1, hc.2, fun i' j' h hi hj => ?_⟩
        exact hcur i' j' h (H.nn c.2 (.inr ⟨_, hM⟩) hnx i' j' h)
      · rename_i c' hnx
        obtain ⟨a1, a2, a3⟩ := H.sm c.2 c'.1 c'.2 (.inr ⟨_, hM⟩) hnx
        have := H.fit _ _ a1
        refine ih c' (some c) a1 (by omega) (fun i j h hi => ⟨c, rfl, hcur i j h ?_⟩) fun d e => by rw [← Option.some.inj e]; exact ⟨hM, hc⟩
        rcases Nat.lt_or_ge i c.2 with q | q
        · exact q
        · have := a3 i j h q; omega
    · rename_i hc
      cases f with
      | none =>
        intro i j h hij
        have hci : c.1 ≤ i := by
          rcases Nat.lt_or_ge i c.1 with q | q
          · obtain ⟨d, e, _⟩ := h1 i j h q; cases e
          · exact q
        rcases Nat.lt_or_ge c.1 i with q | q
        · have := H.ord _ _ _ _ hM h q; have := H.fit _ _ hM; omega
        · have e : c.1 = i := by omega
          have := H.fn _ _ _ hM (e ▸ h); omega
      | some d =>
        obtain ⟨b1, b2, b3⟩ := h2 d rfl
        refine ⟨b1, b2, b3, fun i' j' h hi hj => ?_⟩
        rcases Nat.lt_or_ge i' c.1 with q | q
        · obtain ⟨d', e, z⟩ := h1 i' j' h q
          rw [← Option.some.inj e] at z; exact z
        · rcases Nat.lt_or_ge c.1 i' with q2 | q2
          · have := H.ord _ _ _ _ hM h q2; have := H.fit _ _ hM; omega
          · have e : c.1 = i' := by omega
            have := H.fn _ _ _ hM (e ▸ h); omega
theorem Mat.srM {l : List Nat} {M : Nat → Nat → Prop} {opn clo : List Nat → Nat → Int} (H : Mat l.length M (nxt opn clo l)) (col : Nat) : LastM M col (Mine.sr opn clo l col) := by
  unfold Mine.sr
  split
  · rename_i h
    intro i j hM
    have := H.nn 0 (.inl rfl) h i j hM
    omega
  · rename_i c h
    obtain ⟨a1, a2, a3⟩ := H.sm 0 c.1 c.2 (.inl rfl) h
    refine H.srlM col _ c none a1 (by omega) (fun i j hM hi => ?_) fun d e => nomatch e
    have := a3 i j hM (Nat.zero_le _); omega
theorem Mat.spnM {l : List Nat} {M : Nat → Nat → Prop} {opn clo : List Nat → Nat → Int} (H : Mat l.length M (nxt opn clo l)) (col : Nat) :
    (Mine.spn opn clo l col = (0, 0) ∧ ∀ i j, M i j → ¬ (i < col ∧ j ≤ col)) ∨ (∃ i j, Mine.spn opn clo l col = (i, j) ∧ M i j ∧ i < col ∧ j ≤ col ∧ ∀ i' j', M i' j' → i' < col → j' ≤ col → i' ≤ i) := by
  have h := H.srM col
  unfold Mine.spn
  cases e : Mine.sr opn clo l col with
  | none => rw [e] at h; exact .inl ⟨rfl, h⟩
  | some c => rw [e] at h; exact .inr ⟨c.1, c.2, rfl, h⟩
/-- it is the match that none comes behind -/
theorem Mat.spn_eq {l : List Nat} {M : Nat → Nat → Prop} {opn clo : List Nat → Nat → Int} (H : Mat l.length M (nxt opn clo l)) {col i j : Nat} (h1 : M i j) (h2 : i < col) (h3 : j ≤ col) (h4 : ∀ i' j', M i' j' → i < i' → ¬ (i' < col ∧ j' ≤ col)) : Mine.spn opn clo l col = (i, j) := by
  rcases H.spnM col with ⟨_, h⟩ | ⟨a, b, e, a1, a2, a3, a4⟩
  · exact absurd ⟨h2, h3⟩ (h i j h1)
  · have q := a4 i j h1 h2 h3
    have q2 : a = i := by
      rcases Nat.lt_or_ge i a with z | z
      · exact absurd ⟨a2, a3⟩ (h4 a b a1 z)
      · omega
    subst q2
    rw [e, H.fn _ _ _ a1 h1]
theorem Mat.spn_none {l : List Nat} {M : Nat → Nat → Prop} {opn clo : List Nat → Nat → Int} (H : Mat l.length M (nxt opn clo l)) {col : Nat} (h : ∀ i j, M i j → ¬ (i < col ∧ j ≤ col)) : Mine.spn opn clo l col = (0, 0) := by
  rcases H.spnM col with ⟨e, _⟩ | ⟨a, b, e, a1, a2, a3, a4⟩
  · exact e
  · exact absurd ⟨a2, a3⟩ (h a b a1)
/-! the four programs -/
noncomputable def opnC (c : Nat) (l : List Nat) (a : Nat) : Int := if fnd c l a < l.length then (fnd c l a : Nat) else -1
noncomputable def opnN (l : List Nat) (a : Nat) : Int := if run 47 l a < l.length then (run 47 l a : Nat) else -1
noncomputable def clo1 (_ : List Nat) (i : Nat) : Int := (i : Int) + 1
noncomputable def cloR (c : Nat) (l : List Nat) (i : Nat) : Int := (run c l i : Nat)
noncomputable def cloN (l : List Nat) (i : Nat) : Int := (fnd 47 l i : Nat)
noncomputable def M1 (c : Nat) (l : List Nat) (i j : Nat) : Prop := l[i]? = some c ∧ j = i + 1
noncomputable def MR (c : Nat) (l : List Nat) (i j : Nat) : Prop := i < j ∧ (∀ k, i ≤ k → k < j → l[k]? = some c) ∧ (i = 0 ∨ l[i - 1]? ≠ some c) ∧ l[j]? ≠ some c
noncomputable def MN (l : List Nat) (i j : Nat) : Prop := i < j ∧ j ≤ l.length ∧ (∀ k, i ≤ k → k < j → l[k]? ≠ some 47) ∧ (i = 0 ∨ l[i - 1]? = some 47) ∧ (j = l.length ∨ l[j]? = some 47)
theorem opnC_eq {c : Nat} {l : List Nat} {a i : Nat} (h : opnC c l a = i) : fnd c l a = i ∧ i < l.length := by
  unfold opnC at h
  split at h <;> omega
theorem opnN_eq {l : List Nat} {a i : Nat} (h : opnN l a = i) : run 47 l a = i ∧ i < l.length := by
  unfold opnN at h
  split at h <;> omega
theorem run_pos {c : Nat} {l : List Nat} {i : Nat} (hi : i < l.length) (h : l[i]? = some c) : i < run c l i := by
  have hs := run_spec c l i (by omega)
  rcases Nat.lt_or_ge i (run c l i) with q | q
  · exact q
  · have e : run c l i = i := by omega
    rw [e] at hs
    exact absurd h hs.2.2.2
theorem fnd_pos {c : Nat} {l : List Nat} {i : Nat} (hi : i < l.length) (h : l[i]? ≠ some c) : i < fnd c l i := by
  have hs := fnd_spec c l i (by omega)
  rcases Nat.lt_or_ge i (fnd c l i) with q | q
  · exact q
  · have e : fnd c l i = i := by omega
    rw [e] at hs
    exact absurd (hs.2.2.2 hi) h
theorem good1 (c : Nat) : Good (opnC c) clo1 := by
  refine ⟨fun l a i ha h => ?_, fun l a i ha h => ⟨i + 1, rfl, by omega, ?_⟩⟩
  · obtain ⟨e, h1⟩ := opnC_eq h
    have := fnd_spec c l a ha
    omega
  · have := (opnC_eq h).2; omega
theorem goodR (c : Nat) : Good (opnC c) (cloR c) := by
  refine ⟨(good1 c).o, fun l a i ha h => ⟨run c l i, rfl, ?_, ?_⟩⟩
  · obtain ⟨e, h1⟩ := opnC_eq h
    have hs := fnd_spec c l a ha
    rw [e] at hs
    exact run_pos h1 (hs.2.2.2 h1)
  · exact (run_spec c l i (by have := (opnC_eq h).2; omega)).2.1
theorem goodN : Good opnN cloN := by
  refine ⟨fun l a i ha h => ?_, fun l a i ha h => ⟨fnd 47 l i, rfl, ?_, ?_⟩⟩
  · obtain ⟨e, h1⟩ := opnN_eq h
    have := run_spec 47 l a ha
    omega
  · obtain ⟨e, h1⟩ := opnN_eq h
    have hs := run_spec 47 l a ha
    rw [e] at hs
    exact fnd_pos h1 hs.2.2.2
  · exact (fnd_spec 47 l i (by have := (opnN_eq h).2; omega)).2.1
theorem some_lt {l : List Nat} {k c : Nat} (h : l[k]? = some c) : k < l.length := by
  rcases Nat.lt_or_ge k l.length with q | q
  · exact q
  · rw [List.getElem?_eq_none q] at h; cases h
theorem nxt_some {opn clo : List Nat → Nat → Int} (G : Good opn clo) {l : List Nat} {a i j : Nat} (ha : a ≤ l.length) (h : nxt opn clo l a = some (i, j)) : opn l a = i ∧ clo l i = j ∧ a ≤ i ∧ i < j ∧ j ≤ l.length := by
  by_cases hz : opn l a < 0
  · rw [nxt_none hz] at h; cases h
  · obtain ⟨j', e1, e2, b1, b2, b3⟩ := G.nx (l := l) (a := a) (i := (opn l a).toNat) ha (by omega)
    rw [e2] at h
    obtain ⟨h1, h2⟩ := Prod.mk.inj (Option.some.inj h)
    subst h1 h2
    exact ⟨by omega, e1, b1, b2, b3⟩
theorem nxt_neg {opn clo : List Nat → Nat → Int} {l : List Nat} {a : Nat} (h : nxt opn clo l a = none) : opn l a < 0 := by
  unfold nxt at h
  split at h
  · assumption
  · cases h
theorem fnd_none {c : Nat} {l : List Nat} {a : Nat} (ha : a ≤ l.length) (h : opnC c l a < 0) : ∀ k, a ≤ k → l[k]? ≠ some c := by
  intro k hk hc
  have hs := fnd_spec c l a ha
  have hl := some_lt hc
  unfold opnC at h
  split at h
  · omega
  · exact hs.2.2.1 k hk (by omega) hc
theorem mat1 (c : Nat) (l : List Nat) : Mat l.length (M1 c l) (nxt (opnC c) clo1 l) := by
  have bd : ∀ a, (a = 0 ∨ ∃ i, M1 c l i a) → a ≤ l.length := by
    rintro a (rfl | ⟨i, h1, rfl⟩)
    · omega
    · have := some_lt h1; omega
  refine ⟨?_, ?_, ?_, ?_, ?_⟩
  · rintro i j ⟨h1, rfl⟩
    have := some_lt h1
    omega
  · rintro i j i' j' ⟨h1, rfl⟩ ⟨h2, rfl⟩ h; omega
  · rintro i j j' ⟨h1, rfl⟩ ⟨h2, rfl⟩; rfl
  · rintro a ha h i j ⟨h1, rfl⟩
    rcases Nat.lt_or_ge i a with q | q
    · exact q
    · exact absurd h1 (fnd_none (bd a ha) (nxt_neg h) i q)
  · rintro a i j ha h
    obtain ⟨e1, e2, b1, b2, b3⟩ := nxt_some (good1 c) (bd a ha) h
    obtain ⟨e3, b4⟩ := opnC_eq e1
    have hs := fnd_spec c l a (bd a ha)
    rw [e3] at hs
    refine ⟨⟨hs.2.2.2 b4, ?_⟩, b1, ?_⟩
    · unfold clo1 at e2; omega
    · rintro i' j' ⟨h1, rfl⟩ hi
      rcases Nat.lt_or_ge i' i with q | q
      · exact absurd h1 (hs.2.2.1 i' hi q)
      · exact q
theorem matR (c : Nat) (l : List Nat) : Mat l.length (MR c l) (nxt (opnC c) (cloR c) l) := by
  have bd : ∀ a, (a = 0 ∨ ∃ i, MR c l i a) → a ≤ l.length := by
    rintro a (rfl | ⟨i, h1, h2, h3, h4⟩)
    · omega
    · have := some_lt (h2 (a - 1) (by omega) (by omega)); omega
  have ord : ∀ i j i' j', MR c l i j → MR c l i' j' → i < i' → j ≤ i' := by
    rintro i j i' j' ⟨h1, h2, h3, h4⟩ ⟨g1, g2, g3, g4⟩ h
    rcases Nat.lt_or_ge i' j with q | q
    · rcases g3 with z | z
      · omega
      · exact absurd (h2 (i' - 1) (by omega) (by omega)) z
    · exact q
  refine ⟨?_, ord, ?_, ?_, ?_⟩
  · rintro i j ⟨h1, h2, h3, h4⟩
    have := some_lt (h2 (j - 1) (by omega) (by omega)); omega
  · rintro i j j' ⟨h1, h2, h3, h4⟩ ⟨g1, g2, g3, g4⟩
    rcases Nat.lt_trichotomy j j' with q | q | q
    · exact absurd (g2 j (by omega) q) h4
    · exact q
    · exact absurd (h2 j' (by omega) q) g4
  · rintro a ha h i j ⟨h1, h2, h3, h4⟩
    rcases Nat.lt_or_ge i a with q | q
    · exact q
    · exact absurd (h2 i (Nat.le_refl _) h1) (fnd_none (bd a ha) (nxt_neg h) i q)
  · rintro a i j ha h
    obtain ⟨e1, e2, b1, b2, b3⟩ := nxt_some (goodR c) (bd a ha) h
    obtain ⟨e3, b4⟩ := opnC_eq e1
    have hs := fnd_spec c l a (bd a ha)
    rw [e3] at hs
    have hr := run_spec c l i (by omega)
    have e4 : run c l i = j := by unfold cloR at e2; omega
    rw [e4] at hr
    refine ⟨⟨b2, hr.2.2.1, ?_, hr.2.2.2⟩, b1, ?_⟩
    · rcases Nat.eq_zero_or_pos i with z | z
      · exact .inl z
      · refine .inr fun hc => ?_
        rcases Nat.lt_or_ge a i with q | q
        · exact hs.2.2.1 (i - 1) (by omega) (by omega) hc
        · have e5 : a = i := by omega
          rcases ha with ha | ⟨i0, g1, g2, g3, g4⟩
          · omega
          · exact g4 (e5 ▸ hs.2.2.2 b4)
    · rintro i' j' ⟨g1, g2, g3, g4⟩ hi
      rcases Nat.lt_or_ge i' i with q | q
      · exact absurd (g2 i' (Nat.le_refl _) g1) (hs.2.2.1 i' hi q)
      · exact q
theorem matN (l : List Nat) : Mat l.length (MN l) (nxt opnN cloN l) := by
  have bd : ∀ a, (a = 0 ∨ ∃ i, MN l i a) → a ≤ l.length := by
    rintro a (rfl | ⟨i, h1, h2, h3⟩)
    · omega
    · exact h2
  refine ⟨?_, ?_, ?_, ?_, ?_⟩
  · rintro i j ⟨h1, h2, h3⟩; exact ⟨h1, h2⟩
  · rintro i j i' j' ⟨h1, h2, h3, h4, h5⟩ ⟨g1, g2, g3, g4, g5⟩ h
    rcases Nat.lt_or_ge i' j with q | q
    · rcases g4 with z | z
      · omega
      · exact absurd z (h3 (i' - 1) (by omega) (by omega))
    · exact q
  · rintro i j j' ⟨h1, h2, h3, h4, h5⟩ ⟨g1, g2, g3, g4, g5⟩
    rcases Nat.lt_trichotomy j j' with q | q | q
    · rcases h5 with z | z
      · omega
      · exact absurd z (g3 j (by omega) q)
    · exact q
    · rcases g5 with z | z
      · omega
      · exact absurd z (h3 j' (by omega) q)
  · rintro a ha h i j ⟨h1, h2, h3, h4, h5⟩
    have hs := run_spec 47 l a (bd a ha)
    have hn := nxt_neg h
    unfold opnN at hn
    rcases Nat.lt_or_ge i a with q | q
    · exact q
    · split at hn
      · omega
      · exact absurd (hs.2.2.1 i q (by omega)) (h3 i (Nat.le_refl _) h1)
  · rintro a i j ha h
    obtain ⟨e1, e2, b1, b2, b3⟩ := nxt_some goodN (bd a ha) h
    obtain ⟨e3, b4⟩ := opnN_eq e1
    have hs := run_spec 47 l a (bd a ha)
    rw [e3] at hs
    have hr := fnd_spec 47 l i (by omega)
    have e4 : fnd 47 l i = j := by unfold cloN at e2; omega
    rw [e4] at hr
    refine ⟨⟨b2, b3, hr.2.2.1, ?_, ?_⟩, b1, ?_⟩
    · rcases Nat.lt_or_ge a i with q | q
      · exact .inr (hs.2.2.1 (i - 1) (by omega) (by omega))
      · have e5 : a = i := by omega
        rcases ha with ha | ⟨i0, g1, g2, g3, g4, g5⟩
        · exact .inl (by omega)
        · rcases g5 with z | z
          · omega
          · exact absurd (e5 ▸ z) hs.2.2.2
    · rcases Nat.lt_or_ge j l.length with q | q
      · exact .inr (hr.2.2.2 q)
      · exact .inl (by omega)
    · rintro i' j' ⟨g1, g2, g3, g4, g5⟩ hi
      rcases Nat.lt_or_ge i' i with q | q
      · exact absurd (hs.2.2.1 i' hi q) (g3 i' (Nat.le_refl _) g1)
      · exact q

-- part pure3
theorem reset_pure3 : True := by w_top off; trivial
/-! what the four searches tell of a beginning -/
theorem take_get (l : List Nat) (col k : Nat) : (l.take col)[k]? = if k < col then l[k]? else none := by rw [List.getElem?_take]
/-- the last slash found -/
theorem span_slash (c : Nat) (p : List Nat) (col : Nat) : spn (opnC c) clo1 p col = if lst c (p.take col) = 0 then (0, 0) else (lst c (p.take col) - 1, lst c (p.take col)) := by
  have hs := lst_spec c (p.take col)
  have hg := fun k => take_get p col k
  generalize lst c (p.take col) = n at hs ⊢
  split
  · rename_i h0
    refine (mat1 c p).spn_none fun i j hM hc => ?_
    obtain ⟨h1, rfl⟩ := hM
    have := hs.2.1 i (by omega)
    rw [hg, if_pos hc.1] at this
    exact this h1
  · rename_i h0
    have h1 := hs.2.2 (by omega)
    rw [hg] at h1
    have hlt : n - 1 < col := by
      rcases Nat.lt_or_ge (n - 1) col with q | q
      · exact q
      · rw [if_neg (by omega)] at h1; cases h1
    rw [if_pos hlt] at h1
    refine (mat1 c p).spn_eq ⟨h1, by omega⟩ hlt (by omega) ?_
    rintro i' j' ⟨g1, rfl⟩ hi hc
    have := hs.2.1 i' (by omega)
    rw [hg, if_pos hc.1] at this
    exact this g1
/-- the start of the run of slashes that ends at n -/
noncomputable def bak (c : Nat) (l : List Nat) (n : Nat) : Nat := n - ((l.take n).reverse.takeWhile (· == c)).length
theorem bak_spec (c : Nat) (l : List Nat) (n : Nat) (hn : n ≤ l.length) : bak c l n ≤ n ∧ (∀ k, bak c l n ≤ k → k < n → l[k]? = some c) ∧ (bak c l n = 0 ∨ l[bak c l n - 1]? ≠ some c) := by
  have h := takeWhile_len_spec (p := (· == c)) ((l.take n).reverse)
  have hlen : ((l.take n).reverse).length = n := by simp; omega
  unfold bak
  generalize (((l.take n).reverse).takeWhile (· == c)).length = t at h ⊢
  obtain ⟨h1, h2, h3⟩ := h
  have hrev : ∀ k, k < n → ((l.take n).reverse)[k]? = l[n - 1 - k]? := fun k hk => by
    rw [List.getElem?_reverse (by simp; omega), List.getElem?_take, if_pos (by simp; omega)]
    congr 1
    simp; omega
  refine ⟨by omega, fun k hk1 hk2 => ?_, ?_⟩
  · obtain ⟨a, e, ha⟩ := h1 (n - 1 - k) (by omega)
    rw [hrev _ (by omega), show n - 1 - (n - 1 - k) = k by omega] at e
    rw [e, show a = c by simpa using ha]
  · rcases Nat.eq_zero_or_pos (n - t) with q | q
    · exact .inl q
    · refine .inr fun hc => ?_
      have := h2 c (by rw [hrev _ (by omega), ← hc]; congr 1; omega)
      simp at this
/-- the run of signs that ends at the last one -/
theorem span_run (c : Nat) (l : List Nat) : spn (opnC c) (cloR c) l (lst c l) = if lst c l = 0 then (0, 0) else (bak c l (lst c l), lst c l) := by
  have hs := lst_spec c l
  have hb := bak_spec c l (lst c l) hs.1
  generalize lst c l = n at hs hb ⊢
  split
  · rename_i h0
    exact (matR c l).spn_none fun i j hM hc => by omega
  · rename_i h0
    have hlt : bak c l n < n := by
      rcases Nat.lt_or_ge (bak c l n) n with q | q
      · exact q
      · rcases hb.2.2 with z | z
        · omega
        · rw [show bak c l n = n by omega] at z; exact absurd (hs.2.2 (by omega)) z
    refine (matR c l).spn_eq ⟨hlt, hb.2.1, hb.2.2, hs.2.1 n (Nat.le_refl _)⟩ hlt (Nat.le_refl _) ?_
    rintro i' j' ⟨g1, g2, g3, g4⟩ hi hc
    rcases g3 with z | z
    · omega
    · exact z (hb.2.1 (i' - 1) (by omega) (by omega))
/-- the last run of signs of the whole -/
theorem span_runs (c : Nat) (l : List Nat) (col : Nat) (hc : col = l.length) : spn (opnC c) (cloR c) l col = if lst c l = 0 then (0, 0) else (bak c l (lst c l), lst c l) := by
  have hs := lst_spec c l
  have hb := bak_spec c l (lst c l) hs.1
  generalize lst c l = n at hs hb ⊢
  split
  · rename_i h0
    refine (matR c l).spn_none fun i j hM hc => ?_
    obtain ⟨g1, g2, g3, g4⟩ := hM
    exact hs.2.1 i (by omega) (g2 i (Nat.le_refl _) g1)
  · rename_i h0
    have hlt : bak c l n < n := by
      rcases Nat.lt_or_ge (bak c l n) n with q | q
      · exact q
      · rcases hb.2.2 with z | z
        · omega
        · rw [show bak c l n = n by omega] at z; exact absurd (hs.2.2 (by omega)) z
    refine (matR c l).spn_eq ⟨hlt, hb.2.1, hb.2.2, hs.2.1 n (Nat.le_refl _)⟩ (by omega) (by omega) ?_
    rintro i' j' ⟨g1, g2, g3, g4⟩ hi hcc
    rcases Nat.lt_or_ge i' n with q | q
    · rcases g3 with z | z
      · omega
      · exact z (hb.2.1 (i' - 1) (by omega) (by omega))
    · exact hs.2.1 i' q (g2 i' (Nat.le_refl _) g1)

-- part pure4
theorem reset_pure4 : True := by w_top off; trivial
/-! the eight answers, over lists -/
noncomputable def behL (b : List Nat) : Nat := lst 47 b
noncomputable def ahdL (b : List Nat) : Nat := if lst 47 b = 0 then 0 else bak 47 b (lst 47 b)
noncomputable def headL (b : List Nat) : List Nat := if ahdL b = 0 then b.take (behL b) else b.take (ahdL b)
theorem all_slash {l : List Nat} {n : Nat} (hn : n ≤ l.length) (h : ∀ k, k < n → l[k]? = some 47) : l.take n = List.replicate n 47 := by
  apply List.ext_getElem?
  intro k
  rw [List.getElem?_take, List.getElem?_replicate]
  split
  · exact h k (by assumption)
  · rfl
theorem dir_law (b : List Nat) : dirS (S b) = S (headL b) := by
  have hs := lst_spec 47 b
  have hb := bak_spec 47 b (lst 47 b) hs.1
  unfold dirS headL ahdL behL
  rw [lit_slash, rfind_S, show ((lst 47 b : Int) - 1 + 1) = (lst 47 b : Nat) by omega, sl_to b (by omega), Int.toNat_natCast, S_len, mul_S, rstrip_S, S_bne]
  have hlen : (b.take (lst 47 b)).length = lst 47 b := by simp; omega
  rw [hlen]
  have hbk : (b.take (lst 47 b)).take (lst 47 b - ((b.take (lst 47 b)).reverse.takeWhile (· == 47)).length) = b.take (bak 47 b (lst 47 b)) := by
    unfold bak
    rw [List.take_take]; congr 1; omega
  rw [hbk]
  generalize bak 47 b (lst 47 b) = t at hb ⊢
  generalize lst 47 b = n at hs hb hlen ⊢
  split
  · rename_i hc
    obtain ⟨h1, h2⟩ := hc
    have h1' : n ≠ 0 := by omega
    rw [if_neg h1']
    by_cases ht : t = 0
    · subst ht
      rw [all_slash hs.1 (fun k hk => hb.2.1 k (Nat.zero_le _) hk)] at h2
      simp at h2
    · rw [if_neg ht]
  · rename_i hc
    by_cases h1 : n = 0
    · rw [if_pos h1, if_pos rfl]
    · rw [if_neg h1]
      by_cases ht : t = 0
      · rw [if_pos ht]
      · rw [if_neg ht]
        exfalso
        apply hc
        refine ⟨by omega, bne_iff_ne.mpr fun e => ?_⟩
        rcases hb.2.2 with z | z
        · exact ht z
        · apply z
          have := congrArg (fun l => l[t - 1]?) e
          simp only [List.getElem?_take, List.getElem?_replicate] at this
          rw [if_pos (by omega), if_pos (by omega)] at this
          exact this
theorem base_law (b : List Nat) : Txt.slice (S b) (some (Txt.rfind (S b) (Str.ofString "/") + 1)) none = S (b.drop (behL b)) := by
  have hs := lst_spec 47 b
  unfold behL
  rw [lit_slash, rfind_S, show ((lst 47 b : Int) - 1 + 1) = (lst 47 b : Nat) by omega, sl_from b (by omega), Int.toNat_natCast]
/-- where splitext cuts -/
noncomputable def cutL (b : List Nat) : Nat := if lst 46 b ≠ 0 ∧ bak 46 b (lst 46 b) > behL b then lst 46 b - 1 else b.length
theorem ext_law (b : List Nat) {c e : Str} (h : ExtRel (S b) c e) : c = S (b.take (cutL b)) ∧ e = S (b.drop (cutL b)) := by
  have hs := lst_spec 46 b
  have hb := bak_spec 46 b (lst 46 b) hs.1
  unfold ExtRel at h
  unfold cutL behL
  rw [lit_slash, lit_dot, rfind_S, rfind_S] at h
  generalize bak 46 b (lst 46 b) = t at hb ⊢
  generalize lst 46 b = n at hs hb h ⊢
  generalize lst 47 b = sl at h ⊢
  rcases h with ⟨h1, ⟨k, h2, h3, h4⟩, rfl, rfl⟩ | ⟨h1, rfl, rfl⟩
  · have hk : k = (k.toNat : Nat) := by omega
    rw [hk] at h4
    have h4' : b[k.toNat]? ≠ some 46 := fun z => h4 ((sign_is (S b) k.toNat 46).mpr (by rw [S_cs]; exact z))
    have ht : t > sl := by
      rcases Nat.lt_or_ge sl t with q | q
      · exact q
      · exact absurd (hb.2.1 k.toNat (by omega) (by omega)) h4'
    rw [if_pos ⟨by omega, ht⟩, sl_to b (by omega), sl_from b (by omega), show ((n : Int) - 1).toNat = n - 1 by omega]
    exact ⟨rfl, rfl⟩
  · have hno : ¬ (n ≠ 0 ∧ t > sl) := by
      rintro ⟨h2, h3⟩
      rcases hb.2.2 with z | z
      · omega
      · have hlt : t - 1 < n := by omega
        have htn : t ≠ n := fun e => z (by rw [e]; exact hs.2.2 (by omega))
        have := h1 ((t - 1 : Nat) : Int) (by omega) (by omega)
        exact z (by have q := (sign_is (S b) (t - 1) 46).mp this; rw [S_cs] at q; exact q)
    rw [if_neg hno, sl_to b (by omega)]
    simp

-- part pure5
theorem reset_pure5 : True := by w_top off; trivial
/-! the names -/
noncomputable def pcs (b : List Nat) : List (List Nat) := (splitL 47 b).filter (fun p => !p.isEmpty)
theorem splitL_app (c : Nat) : ∀ u v : List Nat, splitL c (u ++ c :: v) = splitL c u ++ splitL c v
  | [], v => by
    show (if c = c then [] :: splitL c v else _) = _
    rw [if_pos rfl]; rfl
  | a :: u, v => by
    rw [List.cons_append, splitL, splitL]
    by_cases h : a = c
    · rw [if_pos h, if_pos h, splitL_app c u v]; rfl
    · rw [if_neg h, if_neg h, splitL_app c u v]
      have hne := splitL_ne c u
      cases hu : splitL c u with
      | nil => exact absurd hu hne
      | cons x r => rfl
theorem splitL_none (c : Nat) : ∀ v : List Nat, c ∉ v → splitL c v = [v]
  | [], _ => rfl
  | a :: v, h => by
    rw [splitL, if_neg (fun e => h (by simp [e])), splitL_none c v (fun e => h (by simp [e]))]
theorem pcs_app (u v : List Nat) : pcs (u ++ 47 :: v) = pcs u ++ pcs v := by
  unfold pcs; rw [splitL_app, List.filter_append]
theorem pcs_nil : pcs [] = [] := rfl
theorem pcs_name {v : List Nat} (h : 47 ∉ v) (hv : v ≠ []) : pcs v = [v] := by
  unfold pcs
  rw [splitL_none 47 v h]
  cases v with
  | nil => exact absurd rfl hv
  | cons a r => rfl
theorem pcs_slashes (u : List Nat) : ∀ k : Nat, pcs (u ++ List.replicate k 47) = pcs u
  | 0 => by simp
  | k + 1 => by
    rw [List.replicate_succ, pcs_app]
    have h := pcs_slashes [] k
    rw [List.nil_append] at h
    rw [h, pcs_nil, List.append_nil]
theorem pcs_end {u v : List Nat} (hu : u = [] ∨ u.getLast? = some 47) (h : 47 ∉ v) (hv : v ≠ []) : pcs (u ++ v) = pcs u ++ [v] := by
  rcases hu with rfl | hu
  · rw [List.nil_append, pcs_name h hv, pcs_nil]; rfl
  · obtain ⟨w, rfl⟩ := List.getLast?_eq_some_iff.mp hu
    have e2 : pcs (w ++ [47]) = pcs w := by rw [pcs_app, pcs_nil, List.append_nil]
    rw [e2, List.append_assoc, List.singleton_append, pcs_app, pcs_name h hv]
/-- the name around a sign -/
theorem name_at {b : List Nat} {k : Nat} (hk : k < b.length) (h : b[k]? ≠ some 47) : MN b (lst 47 (b.take k)) (fnd 47 b k) ∧ lst 47 (b.take k) ≤ k ∧ k < fnd 47 b k := by
  have hs := lst_spec 47 (b.take k)
  have hf := fnd_spec 47 b k (by omega)
  have hp := fnd_pos hk h
  have hlen : (b.take k).length = k := by simp; omega
  have hg := fun q => take_get b k q
  generalize lst 47 (b.take k) = i at hs ⊢
  rw [hlen] at hs
  refine ⟨⟨by omega, hf.2.1, fun q h1 h2 => ?_, ?_, ?_⟩, hs.1, hp⟩
  · rcases Nat.lt_or_ge q k with z | z
    · have := hs.2.1 q h1
      rw [hg, if_pos z] at this
      exact this
    · exact hf.2.2.1 q z h2
  · rcases Nat.eq_zero_or_pos i with z | z
    · exact .inl z
    · have := hs.2.2 z
      rw [hg, if_pos (by omega)] at this
      exact .inr this
  · rcases Nat.lt_or_ge (fnd 47 b k) b.length with z | z
    · exact .inr (hf.2.2.2 z)
    · exact .inl (by omega)
theorem take_three {b : List Nat} {i j n : Nat} (hij : i ≤ j) (hjn : j ≤ n) (hn : n ≤ b.length) (h : ∀ k, j ≤ k → k < n → b[k]? = some 47) : b.take n = (b.take i ++ (b.take j).drop i) ++ List.replicate (n - j) 47 := by
  have e1 : b.take i ++ (b.take j).drop i = b.take j := by
    rw [show b.take i = (b.take j).take i by rw [List.take_take]; congr 1; omega, List.take_append_drop]
  rw [e1]
  apply List.ext_getElem?
  intro k
  have hl : (b.take j).length = j := by simp; omega
  rcases Nat.lt_or_ge k j with q | q
  · rw [List.getElem?_append_left (by omega), List.getElem?_take, List.getElem?_take, if_pos (by omega), if_pos q]
  · rw [List.getElem?_append_right (by omega), hl, List.getElem?_replicate, List.getElem?_take]
    by_cases z : k < n
    · rw [if_pos z, if_pos (by omega), h k q z]
    · rw [if_neg z, if_neg (by omega)]
/-- a place at which a name may begin, or the end -/
noncomputable def Bnd (b : List Nat) (n : Nat) : Prop := n = b.length ∨ (n < b.length ∧ b[n]? ≠ some 47 ∧ (n = 0 ∨ b[n - 1]? = some 47))
theorem bnd_none {b : List Nat} {n : Nat} (hn : Bnd b n) (h : ∀ k, k < n → b[k]? = some 47) : run 47 b 0 = n := by
  have : n ≤ b.length := by rcases hn with h | h <;> omega
  refine run_uniq (Nat.zero_le _) this (fun k _ hk => h k hk) ?_
  rcases hn with h | h
  · rw [h, List.getElem?_eq_none (Nat.le_refl _)]; simp
  · exact h.2.1
theorem span_name {b : List Nat} {n : Nat} (hn : Bnd b n) : (spn opnN cloN b n = (0, 0) ∧ ∀ k, k < n → b[k]? = some 47) ∨ ∃ i j, spn opnN cloN b n = (i, j) ∧ MN b i j ∧ j ≤ n ∧ ∀ k, j ≤ k → k < n → b[k]? = some 47 := by
  have hnl : n ≤ b.length := by rcases hn with h | h <;> omega
  have key : ∀ k, k < n → b[k]? ≠ some 47 → fnd 47 b k ≤ n := fun k hk h => by
    have hf := fnd_spec 47 b k (by omega)
    rcases hn with z | ⟨z1, z2, z3 | z3⟩
    · omega
    · omega
    · rcases Nat.lt_or_ge n (fnd 47 b k) with q | q
      · exact absurd z3 (hf.2.2.1 (n - 1) (by omega) (by omega))
      · exact q
  rcases (matN b).spnM n with ⟨e, h⟩ | ⟨i, j, e, h1, h2, h3, h4⟩
  · refine .inl ⟨e, fun k hk => ?_⟩
    by_cases q : b[k]? = some 47
    · exact q
    · obtain ⟨a1, a2, a3⟩ := name_at (by omega) q
      exact absurd ⟨by omega, key k hk q⟩ (h _ _ a1)
  · refine .inr ⟨i, j, e, h1, h3, fun k hk1 hk2 => ?_⟩
    by_cases q : b[k]? = some 47
    · exact q
    · obtain ⟨a1, a2, a3⟩ := name_at (by omega) q
      have h5 := h4 _ _ a1 (by omega) (key k hk2 q)
      have h6 := a1.2.2.1 
      rcases h1.2.2.2.2 with z | z
      · omega
      · have := h1.1
        rcases Nat.lt_or_ge j (lst 47 (b.take k)) with w | w
        · omega
        · exact absurd z (a1.2.2.1 j w (by omega))
theorem pcs_step {b : List Nat} {i j n : Nat} (hn : n ≤ b.length) (hM : MN b i j) (hj : j ≤ n) (h : ∀ k, j ≤ k → k < n → b[k]? = some 47) : pcs (b.take n) = pcs (b.take i) ++ [(b.take j).drop i] := by
  obtain ⟨h1, h2, h3, h4, h5⟩ := hM
  have hget : ∀ k, ((b.take j).drop i)[k]? = if i + k < j then b[i + k]? else none := fun k => by rw [List.getElem?_drop, List.getElem?_take]
  rw [take_three (Nat.le_of_lt h1) hj hn h, pcs_slashes]
  refine pcs_end ?_ ?_ ?_
  · rcases Nat.eq_zero_or_pos i with z | z
    · exact .inl (by rw [z]; rfl)
    · refine .inr ?_
      rw [List.getLast?_eq_getElem?]
      have hl : (b.take i).length = i := by simp; omega
      rw [hl, List.getElem?_take, if_pos (by omega)]
      rcases h4 with q | q
      · omega
      · exact q
  · intro hm
    obtain ⟨k, hk⟩ := List.mem_iff_getElem?.mp hm
    rw [hget] at hk
    split at hk
    · exact h3 (i + k) (by omega) (by assumption) hk
    · cases hk
  · intro e
    have := congrArg List.length e
    rw [List.length_drop, List.length_take] at this
    simp at this; omega
theorem bnd_step {b : List Nat} {i j : Nat} (hM : MN b i j) : Bnd b i := by
  obtain ⟨h1, h2, h3, h4, h5⟩ := hM
  exact .inr ⟨by omega, h3 i (Nat.le_refl _) h1, h4⟩
theorem names_law (b : List Nat) (x : Str) (hx : x.length = b.length) (hxs : x = S b) : ∀ (m n at' : Nat) (ns : List Str), (pcs (b.take at')).length = m → m < n → ns.length + m ≤ b.length → Bnd b at' → lnm (spn opnN cloN b) x n at' ns = (run 47 b 0, ns ++ ((pcs (b.take at')).reverse.map S)) := by
  intro m
  induction m with
  | zero =>
    intro n at' ns hm hn hl hb
    obtain ⟨n, rfl⟩ : ∃ n', n = n' + 1 := ⟨n - 1, by omega⟩
    have hnl : at' ≤ b.length := by rcases hb with h | h <;> omega
    rcases span_name hb with ⟨e, h⟩ | ⟨i, j, e, h1, h2, h3⟩
    · rw [lnm, e, if_neg (by simp), bnd_none hb h, List.eq_nil_of_length_eq_zero hm]; simp
    · rw [pcs_step hnl h1 h2 h3] at hm; simp at hm
  | succ m ih =>
    intro n at' ns hm hn hl hb
    obtain ⟨n, rfl⟩ : ∃ n', n = n' + 1 := ⟨n - 1, by omega⟩
    have hnl : at' ≤ b.length := by rcases hb with h | h <;> omega
    rcases span_name hb with ⟨e, h⟩ | ⟨i, j, e, h1, h2, h3⟩
    · have : b.take at' = List.replicate at' 47 := all_slash hnl h
      rw [this] at hm
      have h0 := pcs_slashes [] at'
      rw [List.nil_append, pcs_nil] at h0
      rw [h0] at hm; simp at hm
    · have hp := pcs_step hnl h1 h2 h3
      rw [hp] at hm ⊢
      simp only [List.length_append, List.length_singleton] at hm
      have hij := h1.1
      rw [lnm, e]
      dsimp only
      rw [if_pos ⟨by omega, by omega⟩, ih n i _ (by omega) (by omega) (by rw [List.length_append, List.length_singleton]; omega) (bnd_step h1)]
      rw [hxs, sl_nat, List.reverse_append]
      simp
theorem pcs_len : ∀ b : List Nat, (pcs b).length ≤ b.length
  | [] => by rw [pcs_nil]; exact Nat.le_refl _
  | a :: r => by
    have ih := pcs_len r
    unfold pcs at ih ⊢
    rw [splitL]
    split
    · rw [List.filter_cons_of_neg (by simp), List.length_cons]; omega
    · split
      · rename_i h; exact absurd h (splitL_ne 47 r)
      · rename_i h t e
        rw [e] at ih
        rw [List.filter_cons_of_pos (by simp), List.length_cons, List.length_cons]
        have : (t.filter (fun p => !p.isEmpty)).length ≤ ((h :: t).filter (fun p => !p.isEmpty)).length := by
          rw [List.filter_cons]
          split
          · rw [List.length_cons]; omega
          · exact Nat.le_refl _
        omega
theorem namesS_law (b : List Nat) : namesS opnN cloN (S b) = (run 47 b 0, (pcs b).reverse.map S) := by
  unfold namesS
  have hp := pcs_len b
  rw [S_cs, S_len]
  have h := names_law b (S b) (S_len b) rfl (pcs b).length (b.length + 2) b.length [] (by rw [List.take_length]) (by omega) (by simpa using hp) (.inl rfl)
  rw [h, List.take_length, List.nil_append]
/-! normpath -/
noncomputable def nmF {α : Type} [DecidableEq α] (dd dot : α) (root : Bool) (st : List α) (a : α) : List α :=
  if a = dot then st else if a ≠ dd ∨ (root = false ∧ st = []) ∨ st.getLast? = some dd then st ++ [a] else st.dropLast
noncomputable def stF {α : Type} [DecidableEq α] (dd dot : α) (st : List α × Nat) (a : α) : List α × Nat :=
  if a = dd then (st.1, st.2 + 1) else if a = dot then st else if st.2 = 0 then (st.1 ++ [a], 0) else (st.1, st.2 - 1)
section
variable {α : Type} [DecidableEq α] (dd dot : α) (hne : dd ≠ dot) (root : Bool)
noncomputable def popN : Nat → List α → List α
  | 0, st => st
  | n + 1, st => popN n (nmF dd dot root st dd)
include hne
theorem norm_fold : ∀ (ns st : List α), ns.foldl (nmF dd dot root) st = popN dd dot root (ns.foldr (fun a r => stF dd dot r a) ([], 0)).2 st ++ (ns.foldr (fun a r => stF dd dot r a) ([], 0)).1.reverse
  | [], st => by simp [popN]
  | a :: r, st => by
    rw [List.foldl_cons, norm_fold r, List.foldr_cons]
    generalize r.foldr (fun a r => stF dd dot r a) ([], 0) = g
    obtain ⟨ks, d⟩ := g
    unfold stF
    by_cases h1 : a = dd
    · subst h1; rw [if_pos rfl]; rfl
    · rw [if_neg h1]
      by_cases h2 : a = dot
      · subst h2; rw [if_pos rfl]; unfold nmF; rw [if_pos rfl]
      · rw [if_neg h2]
        have e : nmF dd dot root st a = st ++ [a] := by unfold nmF; rw [if_neg h2, if_pos (.inl h1)]
        rw [e]
        by_cases h3 : d = 0
        · subst h3; rw [if_pos rfl]; simp [popN]
        · rw [if_neg h3]
          obtain ⟨d, rfl⟩ : ∃ d', d = d' + 1 := ⟨d - 1, by omega⟩
          dsimp only
          rw [popN, show nmF dd dot root (st ++ [a]) dd = st by
            unfold nmF
            rw [if_neg hne, if_neg (by simp [h1])]
            simp]
          rfl
theorem popN_true (d : Nat) : popN dd dot true d [] = [] := by
  induction d with
  | zero => rfl
  | succ d ih =>
    rw [popN, show nmF dd dot true [] dd = [] by unfold nmF; rw [if_neg hne, if_neg (by simp)]; rfl]
    exact ih
theorem popN_false (d : Nat) : ∀ k, popN dd dot false d (List.replicate k dd) = List.replicate (k + d) dd := by
  induction d with
  | zero => intro k; rfl
  | succ d ih =>
    intro k
    rw [popN, show nmF dd dot false (List.replicate k dd) dd = List.replicate (k + 1) dd by
        unfold nmF
        rw [if_neg hne, if_pos]
        · rw [List.replicate_succ']
        · cases k with
          | zero => exact .inr (.inl ⟨rfl, rfl⟩)
          | succ k => exact .inr (.inr (by simp [List.getLast?_replicate])), ih]
    congr 1; omega
end

-- part pure6
theorem reset_pure6 : True := by w_top off; trivial
/-! the root, and normpath -/
noncomputable def rootL (b : List Nat) : List Nat := if run 47 b 0 = 2 then [47, 47] else if run 47 b 0 = 0 then [] else [47]
theorem run_cons (a : Nat) (r : List Nat) : run 47 (a :: r) 0 = if a = 47 then run 47 r 0 + 1 else 0 := by
  unfold run
  simp only [List.drop_zero, Nat.zero_add]
  split
  · rename_i h; subst h; simp
  · rename_i h
    rw [List.takeWhile_cons_of_neg (by simpa using h)]; rfl
theorem root_law (b : List Nat) : rootS (S b) = S (rootL b) ∧ restS (S b) = S (b.drop (rootL b).length) := by
  have h1 := sl_to b (j := 1) (by omega)
  have h2 := sl_to b (j := 2) (by omega)
  have h12 := sl_mid b (i := 1) (j := 2) (by omega) (by omega)
  have h23 := sl_mid b (i := 2) (j := 3) (by omega) (by omega)
  have h1n := sl_from b (i := 1) (by omega)
  have h2n := sl_from b (i := 2) (by omega)
  unfold rootS restS rootL
  rw [h1, h2, h12, h23, h1n, h2n, lit_slash, lit_nil]
  simp only [S_bne, S_beq]
  cases b with
  | nil => exact ⟨rfl, rfl⟩
  | cons a r =>
    rw [run_cons]
    by_cases ha : a = 47
    · subst ha
      rw [if_pos rfl]
      cases r with
      | nil => exact ⟨rfl, rfl⟩
      | cons c r =>
        rw [run_cons]
        by_cases hc : c = 47
        · subst hc
          rw [if_pos rfl]
          cases r with
          | nil => exact ⟨rfl, rfl⟩
          | cons e r =>
            rw [run_cons]
            by_cases he : e = 47
            · subst he
              rw [if_pos rfl]
              simp
            · rw [if_neg he]
              simp [he]
        · rw [if_neg hc]
          simp [hc]
    · rw [if_neg ha]
      simp [ha]
theorem pcs_rest (b : List Nat) : pcs (b.drop (rootL b).length) = pcs b := by
  have hone : ∀ v, pcs (47 :: v) = pcs v := fun v => by have := pcs_app [] v; rw [List.nil_append, pcs_nil, List.nil_append] at this; exact this
  unfold rootL
  cases b with
  | nil => rfl
  | cons a r =>
    rw [run_cons]
    by_cases ha : a = 47
    · subst ha
      rw [if_pos rfl]
      cases r with
      | nil => rfl
      | cons c r =>
        rw [run_cons]
        by_cases hc : c = 47
        · subst hc
          rw [if_pos rfl]
          split
          · show pcs r = _; rw [hone, hone]
          · split
            · rfl
            · exact (hone _).symm
        · rw [if_neg hc]
          exact (hone _).symm
    · rw [if_neg ha]
      rfl
theorem norm_law (b : List Nat) (hb : b ≠ []) : rootS (S b) ++ Str.join (Str.ofString "/") ((Txt.split (restS (S b)) (Str.ofString "/")).foldl (nmStep (rootS (S b))) []) = straightS (rootS (S b)) ((pcs b).reverse.map S) := by
  obtain ⟨hr1, hr2⟩ := root_law b
  rw [hr2]
  generalize rootS (S b) = rt
  unfold straightS
  dsimp only
  have hdd : Str.ofString ".." ≠ Str.ofString "." := by decide +kernel
  have e1 : (Txt.split (S (b.drop (rootL b).length)) (Str.ofString "/")).foldl (nmStep rt) [] = ((pcs b).map S).foldl (nmF (Str.ofString "..") (Str.ofString ".") (decide (rt ≠ Str.ofString ""))) [] := by
    rw [lit_slash, split_S, ← pcs_rest b]
    unfold pcs
    generalize splitL 47 (b.drop (rootL b).length) = zs
    generalize ([] : List Str) = st
    induction zs generalizing st with
    | nil => rfl
    | cons z r ih =>
      rw [List.map_cons, List.foldl_cons, ih]
      by_cases hz : z = []
      · subst hz
        rw [List.filter_cons_of_neg (by simp), show nmStep rt st (S []) = st from if_pos (.inl lit_nil.symm)]
      · have hz' : S z ≠ Str.ofString "" := by rw [lit_nil]; intro e; exact hz (S_inj e)
        rw [List.filter_cons_of_pos (by cases z; exact absurd rfl hz; rfl), List.map_cons, List.foldl_cons]
        congr 1
        unfold nmStep nmF
        by_cases h2 : S z = Str.ofString "."
        · rw [if_pos (.inr h2), if_pos h2]
        · rw [if_neg (by simp [hz', h2]), if_neg h2]
          congr 1
          simp
  have e2 : (((pcs b).reverse.map S)).foldl stStep ([], 0) = ((pcs b).map S).foldr (fun a r => stF (Str.ofString "..") (Str.ofString ".") r a) ([], 0) := by
    rw [List.map_reverse, List.foldl_reverse]; rfl
  rw [e1, e2, norm_fold _ _ hdd]
  generalize ((pcs b).map S).foldr (fun a r => stF (Str.ofString "..") (Str.ofString ".") r a) ([], 0) = g
  obtain ⟨ks, d⟩ := g
  dsimp only
  by_cases hrt : rt = Str.ofString ""
  · rw [if_pos hrt, show decide (rt ≠ Str.ofString "") = false by simp [hrt]]
    have := popN_false (Str.ofString "..") (Str.ofString ".") hdd d 0
    simp only [List.replicate_zero, Nat.zero_add] at this
    rw [this, List.reverse_append, List.reverse_replicate]
  · rw [if_neg hrt, show decide (rt ≠ Str.ofString "") = true by simp [hrt], popN_true (Str.ofString "..") (Str.ofString ".") hdd d, List.nil_append]

-- part pure7
theorem reset_pure7 : True := by w_top off; trivial
theorem normS_law (b : List Nat) : normS (S b) = if straightS (rootS (S b)) ((pcs b).reverse.map S) = Str.ofString "" then Str.ofString "." else straightS (rootS (S b)) ((pcs b).reverse.map S) := by
  unfold normS
  by_cases hb : b = []
  · subst hb
    rw [if_pos lit_nil.symm, if_pos]
    decide +kernel
  · rw [if_neg (by rw [lit_nil]; intro e; exact hb (S_inj e))]
    dsimp only
    rw [norm_law b hb]
/-! the last name of a path at a col -/
noncomputable def keptL (p : List Nat) (col : Nat) : List Nat :=
  if (p.take col).drop (behL (p.take col)) ≠ [] ∧ (p.length ≤ col ∨ p[col]? = some 47) then p.take col else headL (p.take col)
theorem last_law (p : List Nat) (col : Nat) (hcol : col ≤ p.length) : spn opnN cloN p col = if (keptL p col).length - behL (keptL p col) ≠ 0 then (behL (keptL p col), (keptL p col).length) else (0, 0) := by
  have hg := fun k => take_get p col k
  have hs := lst_spec 47 (p.take col)
  have hbl : (p.take col).length = col := by simp; omega
  rw [hbl] at hs
  obtain ⟨hs1, hs2, hs3⟩ := hs
  have hns : ∀ k, lst 47 (p.take col) ≤ k → k < col → p[k]? ≠ some 47 := fun k h1 h2 => by
    have := hs2 k h1
    rw [hg, if_pos h2] at this; exact this
  have hsl : 0 < lst 47 (p.take col) → p[lst 47 (p.take col) - 1]? = some 47 := fun h => by
    have := hs3 h
    rw [hg, if_pos (by omega)] at this; exact this
  unfold keptL
  by_cases hA : (p.take col).drop (behL (p.take col)) ≠ [] ∧ (p.length ≤ col ∨ p[col]? = some 47)
  · rw [if_pos hA]
    obtain ⟨hA1, hA2⟩ := hA
    unfold behL at hA1 ⊢
    have hlt : lst 47 (p.take col) < col := by
      rcases Nat.lt_or_ge (lst 47 (p.take col)) col with q | q
      · exact q
      · exact absurd (List.drop_eq_nil_of_le (by omega)) hA1
    rw [hbl, if_pos (by omega)]
    refine (matN p).spn_eq ⟨hlt, hcol, fun k h1 h2 => hns k h1 h2, ?_, ?_⟩ hlt (Nat.le_refl _) ?_
    · rcases Nat.eq_zero_or_pos (lst 47 (p.take col)) with q | q
      · exact .inl q
      · exact .inr (hsl q)
    · rcases hA2 with q | q
      · exact .inl (by omega)
      · exact .inr q
    · rintro i' j' ⟨g1, g2, g3, g4, g5⟩ hi hc
      rcases g4 with z | z
      · omega
      · exact hns (i' - 1) (by omega) (by omega) z
  · rw [if_neg hA]
    have hlate : ∀ i j, MN p i j → lst 47 (p.take col) ≤ i → i < col → j ≤ col → False := by
      rintro i j ⟨g1, g2, g3, g4, g5⟩ hi hic hj
      apply hA
      refine ⟨?_, ?_⟩
      · intro e
        have := congrArg List.length e
        unfold behL at this
        simp only [List.length_drop, List.length_nil, hbl] at this
        omega
      · rcases g5 with z | z
        · exact .inl (by omega)
        · rcases Nat.lt_or_ge j col with q | q
          · exact absurd z (hns j (by omega) q)
          · exact .inr (by rw [show col = j by omega]; exact z)
    have hb := bak_spec 47 (p.take col) (lst 47 (p.take col)) (by omega)
    have hbr : ∀ k, bak 47 (p.take col) (lst 47 (p.take col)) ≤ k → k < lst 47 (p.take col) → p[k]? = some 47 := fun k h1 h2 => by
      have := hb.2.1 k h1 h2
      rw [hg, if_pos (by omega)] at this; exact this
    unfold headL ahdL behL
    by_cases hn : lst 47 (p.take col) = 0
    · rw [if_pos hn, if_pos rfl, hn, List.take_zero, if_neg (by simp)]
      exact (matN p).spn_none fun i j hM hc => hlate i j hM (by omega) hc.1 hc.2
    · rw [if_neg hn]
      generalize hT : bak 47 (p.take col) (lst 47 (p.take col)) = t at hb hbr ⊢
      generalize hN : lst 47 (p.take col) = n at *
      by_cases ht : t = 0
      · rw [if_pos ht]
        have e : lst 47 ((p.take col).take n) = n := by
          refine lst_uniq (fun k hk => ?_) fun _ => ?_
          · rw [List.getElem?_eq_none (by simp; omega)]; simp
          · rw [List.getElem?_take, if_pos (by omega), hg, if_pos (by omega)]; exact hsl (by omega)
        have e2 : ((p.take col).take n).length = n := by simp; omega
        rw [e, e2, if_neg (by omega)]
        refine (matN p).spn_none fun i j hM hc => ?_
        rcases Nat.lt_or_ge i n with q | q
        · exact hM.2.2.1 i (Nat.le_refl _) hM.1 (hbr i (by omega) q)
        · exact hlate i j hM q hc.1 hc.2
      · rw [if_neg ht]
        have htn : t < n := by
          rcases Nat.lt_or_ge t n with q | q
          · exact q
          · rcases hb.2.2 with z | z
            · omega
            · rw [hg, if_pos (by omega), show t = n by omega] at z
              exact absurd (hsl (by omega)) z
        have htl : p[t - 1]? ≠ some 47 := by
          rcases hb.2.2 with z | z
          · omega
          · rw [hg, if_pos (by omega)] at z; exact z
        have e2 : ((p.take col).take t).length = t := by simp; omega
        have e3 : (p.take col).take t = p.take t := by rw [List.take_take]; congr 1; omega
        have hs' := lst_spec 47 (p.take t)
        have hg' := fun k => take_get p t k
        rw [e2, e3]
        generalize lst 47 (p.take t) = i0 at hs' ⊢
        obtain ⟨a1, a2, a3⟩ := hs'
        rw [← e3, e2] at a1
        have hi0 : i0 < t := by
          rcases Nat.lt_or_ge i0 t with q | q
          · exact q
          · have := a3 (by omega)
            rw [hg', if_pos (by omega), show i0 = t by omega] at this
            exact absurd this htl
        rw [if_pos (by omega)]
        refine (matN p).spn_eq ⟨hi0, by omega, fun k h1 h2 => ?_, ?_, .inr (hbr t (Nat.le_refl _) htn)⟩ (by omega) (by omega) ?_
        · have := a2 k h1
          rw [hg', if_pos h2] at this; exact this
        · rcases Nat.eq_zero_or_pos i0 with q | q
          · exact .inl q
          · have := a3 q
            rw [hg', if_pos (by omega)] at this
            exact .inr this
        · rintro i' j' hM hi hc
          rcases Nat.lt_or_ge i' t with q | q
          · rcases hM.2.2.2.1 with z | z
            · omega
            · have := a2 (i' - 1) (by omega)
              rw [hg', if_pos (by omega)] at this
              exact this z
          · rcases Nat.lt_or_ge i' n with q2 | q2
            · exact hM.2.2.1 i' (Nat.le_refl _) hM.1 (hbr i' q q2)
            · exact hlate i' j' hM q2 hc.1 hc.2

-- part pure8
theorem reset_pure8 : True := by w_top off; trivial
/-- what commonpath sifts -/
noncomputable def sift (x : Str) : List Str := (Txt.split x (Str.ofString "/")).filter (fun c => decide (c ≠ Str.ofString "") && decide (c ≠ Str.ofString "."))
theorem sift_law (b : List Nat) : sift (S b) = ((pcs b).map S).filter (fun c => decide (c ≠ Str.ofString ".")) := by
  unfold sift pcs
  rw [lit_slash, split_S, lit_nil]
  induction splitL 47 b with
  | nil => rfl
  | cons z r ih =>
    rw [List.map_cons]
    by_cases hz : z = []
    · subst hz
      rw [List.filter_cons_of_neg (by simp), ih, List.filter_cons_of_neg (by simp)]
    · have hz' : S z ≠ S [] := fun e => hz (S_inj e)
      rw [List.filter_cons_of_pos (p := fun p : List Nat => !p.isEmpty) (by cases z; exact absurd rfl hz; rfl), List.map_cons, List.filter_cons, List.filter_cons, ih]
      simp [hz']
theorem abs_law (b : List Nat) : Txt.startswith (S b) (Str.ofString "/") = decide (0 < run 47 b 0) := by
  rw [lit_slash, startswith_S]
  cases b with
  | nil => rfl
  | cons a r =>
    rw [run_cons]
    by_cases h : a = 47
    · subst h; simp
    · rw [if_neg h]; simp [h]
theorem lead_root (b : List Nat) : rootS (S b) = if run 47 b 0 = 2 then Str.ofString "//" else if run 47 b 0 = 0 then Str.ofString "" else Str.ofString "/" := by
  rw [(root_law b).1, lit_two, lit_nil, lit_slash]
  unfold rootL
  split
  · rfl
  · split <;> rfl
theorem rest_root (b : List Nat) : restS (S b) = Txt.slice (S b) (some ((rootS (S b)).length : Int)) none := by
  obtain ⟨h1, h2⟩ := root_law b
  rw [h2, h1, S_len, sl_from b (by omega), Int.toNat_natCast]

-- part path
theorem reset_path : True := by w_top off; trivial
theorem seqIndex_nn {k : Int} {n : Nat} (h0 : 0 ≤ k) (h1 : k < n) : seqIndex? k n = some k.toNat := by
  unfold seqIndex?
  repeat' split
  all_goals first | rfl | (exfalso; omega) | (congr 1; omega) | (dsimp only; rw [if_pos (by simp [h0, h1])])
theorem item_tupS {prog : Program} {w : World} {A : Around} {E : Value → Shared → Prop} {s : Shared} {value slice : Expr} {D : Addr} {vs : List Value} {k : Int} {u : Tok} {Q : Value → Shared → Prop} (P : Str → Prop) (ht : IsTup s.heap D vs.toArray) (hv : ∀ v ∈ vs, ∃ y t, v = .str y t ∧ P y)
    (h0 : 0 ≤ k) (h1 : k < vs.length) (hn : vs.length ≤ 1000) (h : ∀ y t, P y → Q (.str y t) s)
    (hs : subscripted slice false (.ref D) (.int k u) = operate [.ref D, .int k u] (getItem (.ref D) (.int k u)) := by with_unfolding_all rfl) :
    wpAny (model prog w) A (subscriptTail value slice (.ref D) (.int k u)) Q E s := by
  have hlt : k.toNat < vs.length := by omega
  obtain ⟨y, t, e, hp⟩ := hv _ (List.getElem_mem hlt)
  exact item_tupleT (x := .str y t) ht (by omega) (by omega) (seqIndex_nn h0 h1) (by rw [← e]; simp [hlt]) (h y t hp) hs
theorem strOk_app {x y : Str} (hx : PyData.strOk x = true) (hy : PyData.strOk y = true) : PyData.strOk (x ++ y) = true := by
  unfold PyData.strOk at *
  show (x.cps ++ y.cps).all _ = true
  rw [Array.all_append, hx, hy]; rfl
theorem cells_of {h : Heap} {C : Addr} {o : Obj} {vs : List Value} {n : Nat} {ks : List Int} (e : h.get? C = some o) (ho : o = W.listOf vs.toArray n) (hi : IntsAre vs ks) (hk : ks.length ≤ 8) : ∃ cvs cks, h.IsList C (List.toArray cvs) ∧ IntsAre cvs cks ∧ cks.length ≤ 8 :=
  ⟨vs, ks, ⟨o, e, by rw [ho], n, by rw [ho]⟩, hi, hk⟩
section
variable {w : World} {dp un : Nat} {fr : Option (List Env)} {gd : Option (List Code)} {s : Shared} {Q E : Value → Shared → Prop} {loose : List Str} {mean : ExcName → Option Value} {mg mb : Str → Option Value} {h₀ : Heap} {L : Addr} {m : Str → Option Value} {news : List (Addr × Obj)}
  (F : Fr h₀ L s.heap m) (N : News h₀ L s.heap news) (X : (hd.heap_1 w.params).In h₀) (T : Top topProg loose mean mg mb h₀) {l : Addr} {vs : List Value} {ns : List Int}
include F N X T
set_option maxHeartbeats 8000000 in
theorem path_ok (lifted : s.heap.IsList l vs.toArray) (hI : IntsAre vs ns) (hcond' : ¬ 63 < ns.length) (hdp : dp + 4 < recursionLimit) (ret : ∀ x : Str, x.length ≤ 11 → PyData.strOk x = true → RetS h₀ L m news s Q x) : wpAny (model PR w) (Ar dp fr gd un) (call (.ref 191) [.ref l]) Q E s := by
  ((k_dflt (refine' enterC (by assumption) (by assumption) (by assumption) (by assumption) ?k6 ?k7 ?k8 ?k9 ?kB ?_ ?c2 ?c3 ?c4 ?c5; (case k6 => k_is); (case k7 => k_is); (case k8 => (dsimp only; omega)); (case k9 => exact BindsTo.of_eq rfl); (case c5 => decide); (case kB => exact locs rfl); (case c2 => exact rfl); (case c3 => exact rfl); (case c4 => exact rfl); k_whole; intros; (try dsimp only); (try k_fold))))
  clear F N X T
  (repeat' (first | (k_unfold; (try dsimp only)) | ((((((fail_if_success (with_reducible show wpAny _ _ (exec (Stmt.While _ _ _ _) _) _ _ _)); (fail_if_success (with_reducible show wpAny _ _ (exec (Stmt.For _ _ _ _ _) _) _ _ _)))); (fail_if_success (with_reducible show InvEndN _ _ _ _ _ _ _)); (fail_if_success (with_reducible show wpAny _ _ (binaryOp Operator.Mult (Value.ref _) _) _ _ _)); (fail_if_success (with_reducible show wpAny _ _ (binaryOp Operator.Add (Value.ref _) _) _ _ _)); (fail_if_success (with_reducible show wpAny _ _ (subscriptTail _ _ (Value.ref _) _) _ _ _)); (fail_if_success (with_reducible show wpAny _ _ (call (Value.builtin "list.pop") _) _ _ _)); (fail_if_success (with_reducible show wpAny _ _ (call (Value.builtin _) [Value.str _ _, Value.ref _]) _ _ _)))); (first | walk1 | (dsimp only; walk1)))))
  all_goals
    rename Fr _ _ _ _ => F'
    rename News _ _ _ _ => N'
    refine item_tupS (fun y => y.length ≤ 3 ∧ PyData.strOk y = true) (vs := [_, _, _, _, _]) ⟨_, (N' _ (.head _)).1, rfl, _, rfl⟩ ?_ (Int.fmod_nonneg_of_pos _ (by decide)) (Int.fmod_lt_of_pos _ (by decide)) (by simp) ?_
    · simp only [List.mem_cons, List.not_mem_nil, or_false]
      rintro v (rfl | rfl | rfl | rfl | rfl) <;> exact ⟨_, _, rfl, by decide +kernel⟩
    rintro y ty ⟨hy, hyo⟩
    (repeat' (first | (k_unfold; (try dsimp only)) | ((((((fail_if_success (with_reducible show wpAny _ _ (exec (Stmt.While _ _ _ _) _) _ _ _)); (fail_if_success (with_reducible show wpAny _ _ (exec (Stmt.For _ _ _ _ _) _) _ _ _)))); (fail_if_success (with_reducible show InvEndN _ _ _ _ _ _ _)); (fail_if_success (with_reducible show wpAny _ _ (binaryOp Operator.Mult (Value.ref _) _) _ _ _)); (fail_if_success (with_reducible show wpAny _ _ (binaryOp Operator.Add (Value.ref _) _) _ _ _)); (fail_if_success (with_reducible show wpAny _ _ (subscriptTail _ _ (Value.ref _) _) _ _ _)); (fail_if_success (with_reducible show wpAny _ _ (call (Value.builtin "list.pop") _) _ _ _)); (fail_if_success (with_reducible show wpAny _ _ (call (Value.builtin _) [Value.str _ _, Value.ref _]) _ _ _)))); (first | walk1 | (dsimp only; walk1)))))
  all_goals
    rename Fr _ _ _ _ => F'
    rename News _ _ _ _ => N'
    have hC := (N' _ (.tail _ (.head _)))
    k_dflt (refine' For_invVF F' ?k1 ?k2 ?_; (case k1 => exact rfl); (case k2 => exact rfl); k_whole)
    walk1
    have hCL := hC.2.1
    dsimp only at hCL
  all_goals
    have hcv := cells_of hC.1 rfl (by first | assumption | exact .cons _ _ (.cons _ _ (.cons _ _ .nil))) (by first | (rw [List.length_map]; omega) | (simp; done))
    obtain ⟨cvs, cks, hcl, hci, hc8⟩ := hcv
    refine iter_seq (fun i m₁ nx => nx = [] ∧ ∃ (z : Str) (tz : Tok), m₁ (Str.ofString "path") = some (.str z tz) ∧ z.length ≤ 3 + i ∧ PyData.strOk z = true) rfl hcl hCL ?hnil F' (news := []) News.nil ⟨rfl, y, _, rfl, by omega, hyo⟩ ?_ ?_
    case hnil => exact fun p hp => absurd hp List.not_mem_nil
    · clear F' N' hC hCL hcl
      rintro i v m₁ nx h₁ tk₁ own hv _ hoff ⟨rfl, z, tz, e1, hz, hzo⟩ F₁ N₁
      obtain ⟨n, t, rfl, hn⟩ := IntsAre.at hci i v hv
      have F₂ := nam2 F₁ (x1 := Str.ofString "path") (by rw [if_neg (by decide)]; exact e1) (x2 := Str.ofString "cell") (if_pos rfl)
      clear F₁ e1
      have hf0 : 0 ≤ (n.fdiv 8).fmod 8 := Int.fmod_nonneg_of_pos _ (by decide)
      have hf1 : (n.fdiv 8).fmod 8 < 8 := Int.fmod_lt_of_pos _ (by decide)
      (repeat' (first | (k_unfold; (try dsimp only)) | ((((((fail_if_success (with_reducible show wpAny _ _ (exec (Stmt.While _ _ _ _) _) _ _ _)); (fail_if_success (with_reducible show wpAny _ _ (exec (Stmt.For _ _ _ _ _) _) _ _ _)))); (fail_if_success (with_reducible show InvEndN _ _ _ _ _ _ _)); (fail_if_success (with_reducible show wpAny _ _ (binaryOp Operator.Mult (Value.ref _) _) _ _ _)); (fail_if_success (with_reducible show wpAny _ _ (binaryOp Operator.Add (Value.ref _) _) _ _ _)); (fail_if_success (with_reducible show wpAny _ _ (subscriptTail _ _ (Value.ref _) _) _ _ _)); (fail_if_success (with_reducible show wpAny _ _ (call (Value.builtin "list.pop") _) _ _ _)); (fail_if_success (with_reducible show wpAny _ _ (call (Value.builtin _) [Value.str _ _, Value.ref _]) _ _ _)))); (first | walk1 | (dsimp only; walk1)))))
      rename Fr _ _ _ _ => F'
      rename News _ _ _ _ => N'
      refine item_tupS (fun y => y.length = 1 ∧ PyData.strOk y = true) (vs := [_, _, _, _, _, _, _, _]) ⟨_, (N' _ (.head _)).1, rfl, _, rfl⟩ ?_ (Int.fmod_nonneg_of_pos _ (by decide)) (Int.fmod_lt_of_pos _ (by decide)) (by simp) ?_
      · simp only [List.mem_cons, List.not_mem_nil, or_false]
        rintro v (rfl | rfl | rfl | rfl | rfl | rfl | rfl | rfl) <;> exact ⟨_, _, rfl, by first | decide +kernel | (refine ⟨rfl, ?_⟩; simp [PyData.strOk]; omega)⟩
      rintro c tc ⟨hc, hco⟩
      have hil : i < 8 := by have := List.getElem?_eq_some_iff.mp hn; obtain ⟨q, _⟩ := this; omega
      have hzl : z.length ≤ 12 := by omega
      have hadd := str_len_app z c
      (repeat' (first | (k_unfold; (try dsimp only)) | ((((((fail_if_success (with_reducible show wpAny _ _ (exec (Stmt.While _ _ _ _) _) _ _ _)); (fail_if_success (with_reducible show wpAny _ _ (exec (Stmt.For _ _ _ _ _) _) _ _ _)))); (fail_if_success (with_reducible show InvEndN _ _ _ _ _ _ _)); (fail_if_success (with_reducible show wpAny _ _ (binaryOp Operator.Mult (Value.ref _) _) _ _ _)); (fail_if_success (with_reducible show wpAny _ _ (binaryOp Operator.Add (Value.ref _) _) _ _ _)); (fail_if_success (with_reducible show wpAny _ _ (subscriptTail _ _ (Value.ref _) _) _ _ _)); (fail_if_success (with_reducible show wpAny _ _ (call (Value.builtin "list.pop") _) _ _ _)); (fail_if_success (with_reducible show wpAny _ _ (call (Value.builtin _) [Value.str _ _, Value.ref _]) _ _ _)))); (first | walk1 | (dsimp only; walk1)))))
      rename Fr _ _ _ _ => F'
      rename News _ _ _ _ => N'
      exact InvEndN.intro F' N' ⟨rfl, _, _, rfl, by rw [hadd]; omega, strOk_app hzo hco⟩ rfl (fun _ h => absurd h List.not_mem_nil) (fun p hp => List.mem_cons_of_mem _ (List.mem_append_right _ hp))
    · clear F' N' hC hCL hcl
      rintro m₁ nx h₁ tk₁ ⟨rfl, z, tz, e1, hz, hzo⟩ F₁ N₁
      have F₂ := nam1 F₁ e1
      clear F₁ e1
      have hlen := hci.length
      (repeat' (first | (k_unfold; (try dsimp only)) | ((((((fail_if_success (with_reducible show wpAny _ _ (exec (Stmt.While _ _ _ _) _) _ _ _)); (fail_if_success (with_reducible show wpAny _ _ (exec (Stmt.For _ _ _ _ _) _) _ _ _)))); (fail_if_success (with_reducible show InvEndN _ _ _ _ _ _ _)); (fail_if_success (with_reducible show wpAny _ _ (binaryOp Operator.Mult (Value.ref _) _) _ _ _)); (fail_if_success (with_reducible show wpAny _ _ (binaryOp Operator.Add (Value.ref _) _) _ _ _)); (fail_if_success (with_reducible show wpAny _ _ (subscriptTail _ _ (Value.ref _) _) _ _ _)); (fail_if_success (with_reducible show wpAny _ _ (call (Value.builtin "list.pop") _) _ _ _)); (fail_if_success (with_reducible show wpAny _ _ (call (Value.builtin _) [Value.str _ _, Value.ref _]) _ _ _)))); (first | walk1 | (dsimp only; walk1)))))
      exact ret z (by omega) hzo _ _ _ (Back.fr (by assumption) (by assumption)) (Back.news (by assumption) (by assumption))
end

-- part wrap
theorem reset_wrap : True := by w_top off; trivial
/-! the contracts, told over lists -/
theorem splitL_sub (c : Nat) : ∀ l : List Nat, ∀ z ∈ splitL c l, z.length ≤ l.length ∧ ∀ a ∈ z, a ∈ l
  | [], z, h => by
    rw [splitL] at h
    rw [List.mem_singleton.mp h]
    exact ⟨Nat.le_refl _, fun _ h => h⟩
  | a :: r, z, h => by
    have ih := splitL_sub c r
    rw [splitL] at h
    split at h
    · rcases List.mem_cons.mp h with rfl | h
      · exact ⟨Nat.zero_le _, fun _ h => nomatch h⟩
      · exact ⟨Nat.le_succ_of_le (ih z h).1, fun q hq => .tail _ ((ih z h).2 q hq)⟩
    · split at h
      · rw [List.mem_singleton.mp h]
        exact ⟨by simp, fun q hq => by rw [List.mem_singleton.mp hq]; exact .head _⟩
      · rename_i x y e
        rw [e] at ih
        rcases List.mem_cons.mp h with rfl | h
        · have := ih x (.head _)
          refine ⟨by simpa using this.1, fun q hq => ?_⟩
          rcases List.mem_cons.mp hq with rfl | hq
          · exact .head _
          · exact .tail _ (this.2 q hq)
        · exact ⟨Nat.le_succ_of_le (ih z (.tail _ h)).1, fun q hq => .tail _ ((ih z (.tail _ h)).2 q hq)⟩
theorem pcs_sub (b : List Nat) : ∀ x ∈ (pcs b).map S, x.length ≤ b.length := by
  intro x hx
  obtain ⟨z, hz, rfl⟩ := List.mem_map.mp hx
  rw [S_len]
  exact (splitL_sub 47 b z (List.mem_filter.mp hz).1).1
theorem root_len (b : List Nat) : (rootS (S b)).length ≤ 2 := by
  rw [(root_law b).1, S_len]
  unfold rootL
  split
  · decide
  · split <;> decide
section
variable {w : World} {dp un : Nat} {fr : Option (List Env)} {gd : Option (List Code)} {s : Shared} {Q E : Value → Shared → Prop} {loose : List Str} {mean : ExcName → Option Value} {mg mb : Str → Option Value} {h₀ : Heap} {L : Addr} {m : Str → Option Value} {news : List (Addr × Obj)}
  (F : Fr h₀ L s.heap m) (N : News h₀ L s.heap news) (X : (hd.heap_1 w.params).In h₀) (T : Top topProg loose mean mg mb h₀) {b : List Nat} {t : Tok} (hx : (S b).length ≤ 64)
include F N X T hx
theorem split_okS (hdp : dp + 2 < recursionLimit) (ret : RetSS h₀ L m news s Q (S (headL b)) (S (b.drop (behL b)))) : wpAny (model PR w) (Ar dp fr gd un) (call (.ref 143) [.str (S b) t]) Q E s :=
  split_ok F N X T hx hdp (ret.eq (dir_law b) (base_law b))
theorem dirname_okS (hdp : dp + 2 < recursionLimit) (ret : RetS h₀ L m news s Q (S (headL b))) : wpAny (model PR w) (Ar dp fr gd un) (call (.ref 174) [.str (S b) t]) Q E s :=
  dirname_ok F N X T hx hdp (ret.eq (dir_law b))
theorem basename_okS (hdp : dp + 2 < recursionLimit) (ret : RetS h₀ L m news s Q (S (b.drop (behL b)))) : wpAny (model PR w) (Ar dp fr gd un) (call (.ref 167) [.str (S b) t]) Q E s :=
  basename_ok F N X T hx hdp (ret.eq (base_law b))
theorem splitext_okS (hdp : dp + 3 < recursionLimit) (ret : RetSS h₀ L m news s Q (S (b.take (cutL b))) (S (b.drop (cutL b)))) : wpAny (model PR w) (Ar dp fr gd un) (call (.ref 150) [.str (S b) t]) Q E s :=
  splitext_ok F N X T hx hdp fun c e h => by
    obtain ⟨h1, h2⟩ := ext_law b h
    rw [h1, h2]; exact ret
theorem splitroot_okS (hdp : dp + 2 < recursionLimit) (ret : RetSSS h₀ L m news s Q (Str.ofString "") (rootS (S b)) (Txt.slice (S b) (some ((rootS (S b)).length : Int)) none)) : wpAny (model PR w) (Ar dp fr gd un) (call (.ref 160) [.str (S b) t]) Q E s :=
  splitroot_ok F N X T hx hdp (by rw [rest_root]; exact ret)
theorem normpath_okS (hdp : dp + 4 < recursionLimit) (ret : RetS h₀ L m news s Q (normS (S b))) : wpAny (model PR w) (Ar dp fr gd un) (call (.ref 181) [.str (S b) t]) Q E s :=
  normpath_ok F N X T hx hdp ret
theorem isabs_okS (hdp : dp + 2 < recursionLimit) (ret : RetB h₀ L m news s Q (decide (0 < run 47 b 0))) : wpAny (model PR w) (Ar dp fr gd un) (call (.ref 136) [.str (S b) t]) Q E s :=
  isabs_ok F N X T hx hdp (ret.eq (abs_law b))
end
--MACRO
local macro_rules | `(tactic| walk_at "m contract") => `(tactic| ((first | refine' split_okS ?F ?N ?X ?T ?x ?d ?_ | refine' splitext_okS ?F ?N ?X ?T ?x ?d ?_); walk_at "m c"; intro _ _ _ _ _ _ _))
local macro_rules | `(tactic| walk_at "m contract") => `(tactic| ((first | refine' dirname_okS ?F ?N ?X ?T ?x ?d ?_ | refine' basename_okS ?F ?N ?X ?T ?x ?d ?_ | refine' normpath_okS ?F ?N ?X ?T ?x ?d ?_); walk_at "m c"; intro _ _ _ _ _))
local macro_rules | `(tactic| walk_at "m contract") => `(tactic| ((first | refine' isabs_okS ?F ?N ?X ?T ?x ?d ?_); walk_at "m c"; intro _ _ _ _))
local macro_rules | `(tactic| walk_at "m contract") => `(tactic| ((first | refine' splitroot_okS ?F ?N ?X ?T ?x ?d ?_); walk_at "m c"; intro _ _ _ _ _ _ _ _))
--END
section
variable {prog : Program} {w : World} {A : Around} {E : Value → Shared → Prop} {s : Shared} {a b : Addr} {Q : Value → Shared → Prop}
theorem ne_same2 {x y : Str} {t1 t2 t3 t4 : Tok} (ha : s.heap.get? a = some (tupObj [.str x t1, .str y t2])) (hb : s.heap.get? b = some (tupObj [.str x t3, .str y t4])) (hx : PyData.strOk x = true) (hy : PyData.strOk y = true) (hu : A.units + 64 < cLine) (h : Q (.bool false) s) :
    wpAny (model prog w) A (compareOp .NotEq (.ref a) (.ref b)) Q E s := by
  refine ne_dataH (reads_tuple_at ha rfl rfl (ReadsAll.cons (Reads.str _ _) (ReadsAll.cons (Reads.str _ _) ReadsAll.nil))) (reads_tuple_at hb rfl rfl (ReadsAll.cons (Reads.str _ _) (ReadsAll.cons (Reads.str _ _) ReadsAll.nil))) ?_ ?_ hu ?_
  · simp [SeqAt.shaped, PyData.canLay0, PyData.canLayAll0, PyData.depth, PyData.depthAll, hx, hy]
  · simp [SeqAt.shaped, PyData.canLay0, PyData.canLayAll0, PyData.depth, PyData.depthAll, hx, hy]
  · rw [show PyData.eqv (.tuple [.str x, .str y]) (.tuple [.str x, .str y]) = true by simp [PyData.eqv, PyData.eqvAll]]
    exact h
theorem ne_same3 {x y z : Str} {t1 t2 t3 t4 t5 t6 : Tok} (ha : s.heap.get? a = some (tupObj [.str x t1, .str y t2, .str z t3])) (hb : s.heap.get? b = some (tupObj [.str x t4, .str y t5, .str z t6])) (hx : PyData.strOk x = true) (hy : PyData.strOk y = true) (hz : PyData.strOk z = true) (hu : A.units + 64 < cLine) (h : Q (.bool false) s) :
    wpAny (model prog w) A (compareOp .NotEq (.ref a) (.ref b)) Q E s := by
  refine ne_dataH (reads_tuple_at ha rfl rfl (ReadsAll.cons (Reads.str _ _) (ReadsAll.cons (Reads.str _ _) (ReadsAll.cons (Reads.str _ _) ReadsAll.nil)))) (reads_tuple_at hb rfl rfl (ReadsAll.cons (Reads.str _ _) (ReadsAll.cons (Reads.str _ _) (ReadsAll.cons (Reads.str _ _) ReadsAll.nil)))) ?_ ?_ hu ?_
  · simp [SeqAt.shaped, PyData.canLay0, PyData.canLayAll0, PyData.depth, PyData.depthAll, hx, hy, hz]
  · simp [SeqAt.shaped, PyData.canLay0, PyData.canLayAll0, PyData.depth, PyData.depthAll, hx, hy, hz]
  · rw [show PyData.eqv (.tuple [.str x, .str y, .str z]) (.tuple [.str x, .str y, .str z]) = true by simp [PyData.eqv, PyData.eqvAll]]
    exact h
theorem ne_same2i {x y : Int} {t1 t2 t3 t4 : Tok} (ha : s.heap.get? a = some (tupObj [.int x t1, .int y t2])) (hb : s.heap.get? b = some (tupObj [.int x t3, .int y t4])) (hu : A.units + 64 < cLine) (h : Q (.bool false) s) :
    wpAny (model prog w) A (compareOp .NotEq (.ref a) (.ref b)) Q E s := by
  refine ne_dataH (reads_tuple_at ha rfl rfl (ReadsAll.cons (Reads.int _ _) (ReadsAll.cons (Reads.int _ _) ReadsAll.nil))) (reads_tuple_at hb rfl rfl (ReadsAll.cons (Reads.int _ _) (ReadsAll.cons (Reads.int _ _) ReadsAll.nil))) ?_ ?_ hu ?_
  · simp [SeqAt.shaped, PyData.canLay0, PyData.canLayAll0, PyData.depth, PyData.depthAll]
  · simp [SeqAt.shaped, PyData.canLay0, PyData.canLayAll0, PyData.depth, PyData.depthAll]
  · rw [show PyData.eqv (.tuple [.int x, .int y]) (.tuple [.int x, .int y]) = true by simp [PyData.eqv, PyData.eqvAll]]
    exact h
end

theorem okS {l : List Nat} (h : ∀ c ∈ l, c < 1114112) : PyData.strOk (S l) = true := by
  unfold PyData.strOk S
  simpa using h
theorem okRoot (b : List Nat) : PyData.strOk (rootS (S b)) = true := by
  rw [(root_law b).1]
  refine okS fun c hc => ?_
  unfold rootL at hc
  split at hc
  · simp at hc; omega
  · split at hc
    · cases hc
    · simp at hc; omega
theorem okRest {b : List Nat} (h : ∀ c ∈ b, c < 1114112) : PyData.strOk (Txt.slice (S b) (some ((rootS (S b)).length : Int)) none) = true := by
  rw [sl_from b (by omega)]
  exact okS fun c hc => h c (List.mem_of_mem_drop hc)
theorem headL_sub {b : List Nat} {c : Nat} (h : c ∈ headL b) : c ∈ b := by
  unfold headL at h
  split at h <;> exact List.mem_of_mem_take h
theorem straight_len {root : Str} {xs : List Str} (hxs : ∀ x ∈ xs, x.length ≤ 64) (hn : xs.length ≤ 64) (hr : root.length ≤ 64) : (straightS root xs).length ≤ 8000 := by
  obtain ⟨i1, i2⟩ := stFold_inv xs ([], 0)
  unfold straightS
  generalize xs.foldl stStep ([], 0) = st at *
  rw [str_len_app]
  have key : ∀ zs : List Str, zs.length ≤ 64 → (∀ z ∈ zs, z.length ≤ 64) → (Str.join (Str.ofString "/") zs).length ≤ 64 * 64 + 64 := fun zs h1 h2 => by
    have a := join_len (Str.ofString "/") zs
    have b := sum_le h2
    rw [show (Str.ofString "/").length = 1 from rfl] at a
    have : zs.length * 64 ≤ 64 * 64 := Nat.mul_le_mul_right 64 h1
    omega
  have hk : ∀ k ∈ st.1, k.length ≤ 64 := fun k hk => (i2 k hk).elim (fun h => nomatch h) (hxs k)
  simp only [List.length_nil] at i1
  have := key (if root = Str.ofString "" then st.1 ++ List.replicate st.2 (Str.ofString "..") else st.1).reverse (by
    rw [List.length_reverse]
    split
    · rw [List.length_append, List.length_replicate]; omega
    · omega) (fun z hz => by
    have hz := List.mem_reverse.mp hz
    split at hz
    · rcases List.mem_append.mp hz with h | h
      · exact hk z h
      · rw [List.eq_of_mem_replicate h]; decide
    · exact hk z hz)
  omega
theorem kept1 {p b : List Nat} {col : Nat} (hb : p.take col = b) (h1 : ((S (b.drop (behL b))).length : Int) ≠ 0) (h2 : ([Str.ofString "", Str.ofString "/"].any fun x => x == Txt.slice (S p) (some (col : Int)) (some ((col : Int) + 1))) = true) : S b = S (keptL p col) := by
  unfold keptL
  rw [hb]
  rw [S_len] at h1
  rw [sl_mid p (by omega) (by omega), show ((col : Int) + 1).toNat = col + 1 by omega, Int.toNat_natCast, sl_one] at h2
  rw [if_pos]
  refine ⟨fun z => h1 (by rw [z]; rfl), ?_⟩
  simp only [List.any_cons, List.any_nil, Bool.or_false, Bool.or_eq_true, beq_iff_eq] at h2
  cases q : p[col]? with
  | none => exact .inl (List.getElem?_eq_none_iff.mp q)
  | some a =>
    rw [q] at h2
    rcases h2 with h2 | h2
    · rw [lit_nil] at h2; have := S_inj h2; cases this
    · rw [lit_slash] at h2; have := S_inj h2; simp at this; exact .inr (by rw [this])
theorem kept2 {p b : List Nat} {col : Nat} (hb : p.take col = b) (h2 : ([Str.ofString "", Str.ofString "/"].any fun x => x == Txt.slice (S p) (some (col : Int)) (some ((col : Int) + 1))) = false) : S (headL b) = S (keptL p col) := by
  unfold keptL
  rw [hb]
  rw [sl_mid p (by omega) (by omega), show ((col : Int) + 1).toNat = col + 1 by omega, Int.toNat_natCast, sl_one] at h2
  rw [if_neg]
  rintro ⟨-, h⟩
  simp only [List.any_cons, List.any_nil, Bool.or_false, Bool.or_eq_false_iff, beq_eq_false_iff_ne, ne_eq] at h2
  rcases h with h | h
  · rw [List.getElem?_eq_none h] at h2
    exact h2.1 lit_nil
  · rw [h] at h2
    exact h2.2 lit_slash
theorem kept3 {p b : List Nat} {col : Nat} (hb : p.take col = b) (h1 : ((S (b.drop (behL b))).length : Int) = 0) : S (headL b) = S (keptL p col) := by
  unfold keptL
  rw [hb]
  rw [S_len] at h1
  rw [if_neg]
  rintro ⟨h, -⟩
  exact h (List.length_eq_zero_iff.mp (by omega))
theorem tdot {y : Str} : (y != Str.ofString ".") = decide (y ≠ Str.ofString ".") := by
  by_cases h : y = Str.ofString "."
  · rw [h]; decide
  · rw [decide_eq_true h]; exact bne_iff_ne.mpr h
theorem abs_same {p b : List Nat} {col : Nat} (hb : p.take col = b) (h0 : b ≠ []) : Txt.startswith (S b) (Str.ofString "/") = Txt.startswith (S p) (Str.ofString "/") := by
  rw [lit_slash, startswith_S, startswith_S]
  subst hb
  cases p with
  | nil => simp at h0
  | cons a r =>
    cases col with
    | zero => simp at h0
    | succ c => rfl

-- part cmp
theorem reset_cmp : True := by w_top off; trivial
section
open PySem.AutoSeq1 (wpAny_loadPart')
open PySem.MeetsSeq PySem.MeetsSeq3
/-- the order of two lists of texts -/
noncomputable def ltL (gt : Bool) : List Str → List Str → Bool
  | [], [] => false
  | [], _ :: _ => !gt
  | _ :: _, [] => gt
  | x :: xs, y :: ys => if x = y then ltL gt xs ys else if gt = true then decide (y.cps.toList < x.cps.toList) else decide (x.cps.toList < y.cps.toList)
theorem ltL_drop (gt : Bool) (xs ys : List Str) (i : Nat) (h1 : i ≤ xs.length) (h2 : i ≤ ys.length) (h : i = xs.length ∨ i = ys.length) : ltL gt (xs.drop i) (ys.drop i) = if gt = true then decide (xs.length > ys.length) else decide (xs.length < ys.length) := by
  have a : (xs.drop i).length = xs.length - i := by simp
  have b : (ys.drop i).length = ys.length - i := by simp
  cases hx : xs.drop i <;> cases hy : ys.drop i <;> rw [hx] at a <;> rw [hy] at b <;> simp only [List.length_nil, List.length_cons] at a b <;> cases gt <;> simp [ltL] <;> omega
theorem strs_nth {vs : List Value} {xs : List Str} (h : StrsAre vs xs) : ∀ i : Nat, i < vs.length → ∃ x t, vs[i]? = some (.str x t) ∧ xs[i]? = some x := by
  induction h with
  | nil => intro i hi; simp at hi
  | cons z u r ih =>
    intro i hi
    cases i with
    | zero => exact ⟨_, _, rfl, rfl⟩
    | succ i => simpa using ih i (by simpa using hi)
theorem lt_loop (l b : Addr) (vs us : List Value) (n n2 : Nat) (dd dd2 : Option Addr) (sl sl2 : Array (Option Value)) (xs ys : List Str) (hv : StrsAre vs xs) (hu : StrsAre us ys) (k : Nat) :
    ∀ i : Nat, vs.length - i = k → i ≤ vs.length → i ≤ us.length → Meets (Builtin.«list.__eq__.loop» ⟨[.ref l, .ref b, rawInt i, rawInt 0], []⟩)
      (fun _ R s => s.heap.get? l = some { cls := .type "list", dict := dd, data := .seq vs.toArray n, slots := sl } ∧ s.heap.get? b = some { cls := .type "list", dict := dd2, data := .seq us.toArray n2, slots := sl2 } ∧
        R (.ok (.ret (.bool (ltL false (xs.drop i) (ys.drop i))))) s) := by
  have hvl := hv.length
  have hul := hu.length
  induction k with
  | zero =>
    intro i hk hi hi' prog w A R s h
    obtain ⟨hp, g, d, tk, os⟩ := s; obtain ⟨hl, hb, h⟩ := h
    wp_walk using wpAny_loadPart' hl, wpAny_loadPart' hb
    have hi1 : vs.toArray[((i : Nat) : Int).toNat]? = none := by simp; omega
    rw [ltL_drop false xs ys i (by omega) (by omega) (.inl (by omega))] at h
    rw [hi1]
    wp_walk using wpAny_loadPart' hl, wpAny_loadPart' hb
    show R (.ok (.ret (.bool (decide (vs.toArray.size < us.toArray.size))))) _
    rw [List.size_toArray, List.size_toArray, hvl, hul]
    simpa using h
  | succ k ih =>
    intro i hk hi hi' prog w A R s h
    obtain ⟨hp, g, d, tk, os⟩ := s; obtain ⟨hl, hb, h⟩ := h
    wp_walk using wpAny_loadPart' hl, wpAny_loadPart' hb
    obtain ⟨x, t, e1, e2⟩ := strs_nth hv i (by omega)
    have hi1 : vs.toArray[((i : Nat) : Int).toNat]? = some (.str x t) := by simpa using e1
    rw [hi1]
    by_cases hlt2 : i < us.length
    · obtain ⟨y, u, f1, f2⟩ := strs_nth hu i hlt2
      have hi2 : us.toArray[((i : Nat) : Int).toNat]? = some (.str y u) := by simpa using f1
      have hc : ((i : Int) + 1) = ((i + 1 : Nat) : Int) := by push_cast; rfl
      rw [hi2]
      refine wpAny_bind (wpAny_eqBool_str ?_)
      obtain ⟨hx1, hx2⟩ := List.getElem?_eq_some_iff.mp e2
      obtain ⟨hy1, hy2⟩ := List.getElem?_eq_some_iff.mp f2
      rw [List.drop_eq_getElem_cons hx1, List.drop_eq_getElem_cons hy1, hx2, hy2] at h
      unfold ltL at h
      by_cases q : x = y
      · rw [if_pos q] at h
        rw [decide_eq_true q]
        wp_walk
        rw [hc]
        exact ⟨plainId_quiet plain_eq_loop _, codeAny_builtin entry_eq_loop (by
          rw [Around.under_plainId plain_eq_loop _]
          exact ih (i + 1) (by omega) (by omega) (by omega) prog w A R _ ⟨hl, hb, h⟩)⟩
      · rw [if_neg q] at h
        rw [decide_eq_false q]
        wp_walk using wpAny_loadPart' hl, wpAny_loadPart' hb
        rw [hi1, hi2]
        refine wpAny_bind (richCompare_gives (op := .Lt) (typeIs_str _ x t) (typeIs_str _ y u) F.slot_str_lt F.entry_str_lt (F.args_str_lt_2 _ _) (gives_str_lt x y t u) (fun e => nomatch e) ?_)
        show wpAny _ _ _ _ _ _
        wp_walk
        simpa using h
    · have hi2 : us.toArray[((i : Nat) : Int).toNat]? = none := by simp; omega
      rw [hi2]
      rw [ltL_drop false xs ys i (by omega) (by omega) (.inr (by omega))] at h
      wp_walk using wpAny_loadPart' hl, wpAny_loadPart' hb
      show R (.ok (.ret (.bool (decide (vs.toArray.size < us.toArray.size))))) _
      rw [List.size_toArray, List.size_toArray, hvl, hul]
      simpa using h
theorem list_ltS (l b : Addr) (vs us : List Value) (n n2 : Nat) (dd dd2 : Option Addr) (sl sl2 : Array (Option Value)) (xs ys : List Str) (hv : StrsAre vs xs) (hu : StrsAre us ys) :
    Meets (Builtin.«list.__lt__» ⟨[.ref l, .ref b], []⟩)
      (fun _ R s => s.heap.get? l = some { cls := .type "list", dict := dd, data := .seq vs.toArray n, slots := sl } ∧ s.heap.get? b = some { cls := .type "list", dict := dd2, data := .seq us.toArray n2, slots := sl2 } ∧
        R (.ok (.ret (.bool (ltL false xs ys)))) s) := by
  intro prog w A R s h
  obtain ⟨hp, g, d, tk, os⟩ := s; obtain ⟨hl, hb, h⟩ := h
  have f3 := AutoSeq1.sub_list_list
  wp_walk using wpAny_loadPart' hl, wpAny_loadPart' hb
  exact ⟨plainId_quiet plain_eq_loop _, codeAny_builtin entry_eq_loop (by
    rw [Around.under_plainId plain_eq_loop _]
    exact lt_loop l b vs us n n2 dd dd2 sl sl2 xs ys hv hu _ 0 rfl (Nat.zero_le _) (Nat.zero_le _) prog w A R _ ⟨hl, hb, by simpa using h⟩)⟩
theorem gt_loop (l b : Addr) (vs us : List Value) (n n2 : Nat) (dd dd2 : Option Addr) (sl sl2 : Array (Option Value)) (xs ys : List Str) (hv : StrsAre vs xs) (hu : StrsAre us ys) (k : Nat) :
    ∀ i : Nat, vs.length - i = k → i ≤ vs.length → i ≤ us.length → Meets (Builtin.«list.__eq__.loop» ⟨[.ref l, .ref b, rawInt i, rawInt 4], []⟩)
      (fun _ R s => s.heap.get? l = some { cls := .type "list", dict := dd, data := .seq vs.toArray n, slots := sl } ∧ s.heap.get? b = some { cls := .type "list", dict := dd2, data := .seq us.toArray n2, slots := sl2 } ∧
        R (.ok (.ret (.bool (ltL true (xs.drop i) (ys.drop i))))) s) := by
  have hvl := hv.length
  have hul := hu.length
  induction k with
  | zero =>
    intro i hk hi hi' prog w A R s h
    obtain ⟨hp, g, d, tk, os⟩ := s; obtain ⟨hl, hb, h⟩ := h
    wp_walk using wpAny_loadPart' hl, wpAny_loadPart' hb
    have hi1 : vs.toArray[((i : Nat) : Int).toNat]? = none := by simp; omega
    rw [ltL_drop true xs ys i (by omega) (by omega) (.inl (by omega))] at h
    rw [hi1]
    wp_walk using wpAny_loadPart' hl, wpAny_loadPart' hb
    show R (.ok (.ret (.bool (decide (vs.toArray.size > us.toArray.size))))) _
    rw [List.size_toArray, List.size_toArray, hvl, hul]
    simpa using h
  | succ k ih =>
    intro i hk hi hi' prog w A R s h
    obtain ⟨hp, g, d, tk, os⟩ := s; obtain ⟨hl, hb, h⟩ := h
    wp_walk using wpAny_loadPart' hl, wpAny_loadPart' hb
    obtain ⟨x, t, e1, e2⟩ := strs_nth hv i (by omega)
    have hi1 : vs.toArray[((i : Nat) : Int).toNat]? = some (.str x t) := by simpa using e1
    rw [hi1]
    by_cases hlt2 : i < us.length
    · obtain ⟨y, u, f1, f2⟩ := strs_nth hu i hlt2
      have hi2 : us.toArray[((i : Nat) : Int).toNat]? = some (.str y u) := by simpa using f1
      have hc : ((i : Int) + 1) = ((i + 1 : Nat) : Int) := by push_cast; rfl
      rw [hi2]
      refine wpAny_bind (wpAny_eqBool_str ?_)
      obtain ⟨hx1, hx2⟩ := List.getElem?_eq_some_iff.mp e2
      obtain ⟨hy1, hy2⟩ := List.getElem?_eq_some_iff.mp f2
      rw [List.drop_eq_getElem_cons hx1, List.drop_eq_getElem_cons hy1, hx2, hy2] at h
      unfold ltL at h
      by_cases q : x = y
      · rw [if_pos q] at h
        rw [decide_eq_true q]
        wp_walk
        rw [hc]
        exact ⟨plainId_quiet plain_eq_loop _, codeAny_builtin entry_eq_loop (by
          rw [Around.under_plainId plain_eq_loop _]
          exact ih (i + 1) (by omega) (by omega) (by omega) prog w A R _ ⟨hl, hb, h⟩)⟩
      · rw [if_neg q] at h
        rw [decide_eq_false q]
        wp_walk using wpAny_loadPart' hl, wpAny_loadPart' hb
        rw [hi1, hi2]
        refine wpAny_bind (richCompare_gives (op := .Gt) (typeIs_str _ x t) (typeIs_str _ y u) F.slot_str_gt F.entry_str_gt (F.args_str_gt_2 _ _) (gives_str_gt x y t u) (fun e => nomatch e) ?_)
        show wpAny _ _ _ _ _ _
        wp_walk
        simpa using h
    · have hi2 : us.toArray[((i : Nat) : Int).toNat]? = none := by simp; omega
      rw [hi2]
      rw [ltL_drop true xs ys i (by omega) (by omega) (.inr (by omega))] at h
      wp_walk using wpAny_loadPart' hl, wpAny_loadPart' hb
      show R (.ok (.ret (.bool (decide (vs.toArray.size > us.toArray.size))))) _
      rw [List.size_toArray, List.size_toArray, hvl, hul]
      simpa using h
theorem list_gtS (l b : Addr) (vs us : List Value) (n n2 : Nat) (dd dd2 : Option Addr) (sl sl2 : Array (Option Value)) (xs ys : List Str) (hv : StrsAre vs xs) (hu : StrsAre us ys) :
    Meets (Builtin.«list.__gt__» ⟨[.ref l, .ref b], []⟩)
      (fun _ R s => s.heap.get? l = some { cls := .type "list", dict := dd, data := .seq vs.toArray n, slots := sl } ∧ s.heap.get? b = some { cls := .type "list", dict := dd2, data := .seq us.toArray n2, slots := sl2 } ∧
        R (.ok (.ret (.bool (ltL true xs ys)))) s) := by
  intro prog w A R s h
  obtain ⟨hp, g, d, tk, os⟩ := s; obtain ⟨hl, hb, h⟩ := h
  have f3 := AutoSeq1.sub_list_list
  wp_walk using wpAny_loadPart' hl, wpAny_loadPart' hb
  exact ⟨plainId_quiet plain_eq_loop _, codeAny_builtin entry_eq_loop (by
    rw [Around.under_plainId plain_eq_loop _]
    exact gt_loop l b vs us n n2 dd dd2 sl sl2 xs ys hv hu _ 0 rfl (Nat.zero_le _) (Nat.zero_le _) prog w A R _ ⟨hl, hb, by simpa using h⟩)⟩
end
section
variable {prog : Program} {w : World} {A : Around} {E : Value → Shared → Prop} {s : Shared}
theorem rich_lt {l b : Addr} {vs us : List Value} {xs ys : List Str} {Q : Value → Shared → Prop} (hl : s.heap.IsList l vs.toArray) (hb : s.heap.IsList b us.toArray) (hv : StrsAre vs xs) (hu : StrsAre us ys) (hn : A.units < cLine)
    (h : Q (.bool (ltL false xs ys)) s) : wpAny (model prog w) A (richCompare .Lt (.ref l) (.ref b)) Q E s := by
  obtain ⟨⟨c1, d1, f1, s1⟩, e1, r1, n1, q1⟩ := hl
  obtain ⟨⟨c2, d2, f2, s2⟩, e2, r2, n2, q2⟩ := hb
  dsimp only at r1 q1 r2 q2
  subst r1 q1 r2 q2
  exact richCompare_meets_room ⟨_, e1, rfl⟩ ⟨_, e2, rfl⟩ F.slot_list_lt F.entry_list_lt (F.args_list_lt_2 _ _) (list_ltS l b vs us _ _ _ _ _ _ xs ys hv hu) ⟨e1, e2, ⟨(fun e => nomatch e), h⟩⟩ hn
theorem rich_gt {l b : Addr} {vs us : List Value} {xs ys : List Str} {Q : Value → Shared → Prop} (hl : s.heap.IsList l vs.toArray) (hb : s.heap.IsList b us.toArray) (hv : StrsAre vs xs) (hu : StrsAre us ys) (hn : A.units < cLine)
    (h : Q (.bool (ltL true xs ys)) s) : wpAny (model prog w) A (richCompare .Gt (.ref l) (.ref b)) Q E s := by
  obtain ⟨⟨c1, d1, f1, s1⟩, e1, r1, n1, q1⟩ := hl
  obtain ⟨⟨c2, d2, f2, s2⟩, e2, r2, n2, q2⟩ := hb
  dsimp only at r1 q1 r2 q2
  subst r1 q1 r2 q2
  exact richCompare_meets_room ⟨_, e1, rfl⟩ ⟨_, e2, rfl⟩ F.slot_list_gt F.entry_list_gt (F.args_list_gt_2 _ _) (list_gtS l b vs us _ _ _ _ _ _ xs ys hv hu) ⟨e1, e2, ⟨(fun e => nomatch e), h⟩⟩ hn
end
section
variable {prog : Program} {w : World} {A : Around} {E : Value → Shared → Prop} {s : Shared}
/-- the least of two lists of texts in a list -/
theorem min_two_lists {l a b : Addr} {vs us : List Value} {xs ys : List Str} {Q : Value → Shared → Prop} (hh : A.handled = none) (hl : s.heap.IsList l #[.ref a, .ref b]) (ha : s.heap.IsList a vs.toArray) (hb : s.heap.IsList b us.toArray) (hv : StrsAre vs xs) (hu : StrsAre us ys) (hn : A.units + 1 < cLine)
    (h : ∀ h' tk, (∀ c o, s.heap.get? c = some o → h'.get? c = some o) → Q (if ltL false ys xs = true then .ref b else .ref a) { s with heap := h', toks := tk }) :
    wpAny (model prog w) A (call (.builtin "min") [.ref l]) Q E s := by
  have hname : (toString "min" ++ toString ".loop" : String) = "min.loop" := by decide
  refine call_function_tree F.kind_min F.plain_min F.entry_min (F.args_min1 _) ?_
  show wpAny _ A.in1 (Builtin.Builtins.bindParams "min" ["key", "default"] 0 ⟨[], []⟩ >>= _) _ _ s
  refine wpAny_bind (wpAny_of_eq (show Builtin.Builtins.bindParams "min" ["key", "default"] 0 ⟨[], []⟩ = pure [none, none] from rfl) ?_)
  refine wpAny_bind (wpAny_pure ?_)
  have hlt : l < s.heap.objs.size := by obtain ⟨_, e, _⟩ := hl; exact Heap.lt_size e
  have halt : a < s.heap.objs.size := by obtain ⟨_, e, _⟩ := ha; exact Heap.lt_size e
  have hblt : b < s.heap.objs.size := by obtain ⟨_, e, _⟩ := hb; exact Heap.lt_size e
  refine wpAny_bind (wpAny_pyIter_list hl ?_)
  generalize hH1 : s.heap.push { cls := .type "list_iterator", data := .fields #[.ref l, .int 0 0] } = H1
  have hI : H1.IsListIter s.heap.objs.size l 0 := ⟨_, hH1 ▸ Heap.get?_push_size _ rfl, rfl, rfl⟩
  have hs1 : H1.objs.size = s.heap.objs.size + 1 := by rw [← hH1, Heap.size_push]
  have up1 : ∀ c o, s.heap.get? c = some o → H1.get? c = some o := fun c o e => hH1 ▸ Heap.get?_push_of_some _ e
  refine wpAny_bind (wpAny_newObj_type ?_)
  generalize hH2 : H1.push { cls := .type "list", dict := none, data := .seq ([] : List Value).toArray } = H2
  rw [hname]
  have up2 : ∀ c o, H1.get? c = some o → H2.get? c = some o := fun c o e => hH2 ▸ Heap.get?_push_of_some _ e
  have hS2 : H2.get? H1.objs.size = some { cls := .type "list", dict := none, data := .seq #[] } := hH2 ▸ Heap.get?_push_size _ rfl
  have hI2 : H2.IsListIter s.heap.objs.size l 0 := hI.at fun o e => up2 _ o e
  have neI : s.heap.objs.size ≠ H1.objs.size := by rw [hs1]; exact Nat.ne_of_lt (Nat.lt_succ_self _)
  refine wpAny_pure ⟨plainId_quiet F.plain_min_loop _, ?_⟩
  have lif : ∀ {c : Addr} {is : Array Value} {h1 h2 : Heap}, h1.IsList c is → (∀ o, h1.get? c = some o → h2.get? c = some o) → h2.IsList c is := fun x k => x.at k
  have bl : ∀ c, c < s.heap.objs.size → c ≠ s.heap.objs.size ∧ c ≠ H1.objs.size := fun c hc => ⟨Nat.ne_of_lt hc, by rw [hs1]; exact Nat.ne_of_lt (Nat.lt_succ_of_lt hc)⟩
  -- the first
  refine codeAny_builtin F.entry_min_loop ?_
  rw [Around.under_plainId F.plain_min_loop _]
  show wpAny _ A.in1 (seqItems? (.ref H1.objs.size) >>= _) _ _ _
  refine wpAny_bind (wpAny_seqItems hS2 rfl ?_)
  show wpAny _ A.in1 (tryCatch (pyNext (.ref s.heap.objs.size)) _ >>= _) _ _ _
  refine wpAny_bind (wpAny_tryCatch (wpAny_pyNext_list_item hI2 (x := .ref a) (lif hl fun o e => up2 _ _ (up1 _ _ e)) rfl fun H3 hI3 hs3 => ?_))
  have hS3 := hs3.extBut _ _ neI.symm hS2
  show wpAny _ A.in1 (updateSeq H1.objs.size (fun _ => #[.ref a, .ref a]) >>= _) _ _ _
  refine wpAny_bind ?_
  refine wpAny_updateSeq hS3 rfl ?_
  rw [hname]
  dsimp only
  have hS4 := Heap.get?_update_self (Obj.mapSeq (fun _ => #[Value.ref a, Value.ref a])) hS3 rfl
  have up4 : ∀ c o, c < s.heap.objs.size → s.heap.get? c = some o → (H3.update H1.objs.size (Obj.mapSeq (fun _ => #[Value.ref a, Value.ref a]))).get? c = some o := fun c o hc e =>
    (Heap.get?_update_other _ _ (Ne.symm (bl c hc).2)).trans (hs3.extBut _ _ (bl c hc).1 (up2 _ _ (up1 _ _ e)))
  have hI4 : (H3.update H1.objs.size (Obj.mapSeq (fun _ => #[Value.ref a, Value.ref a]))).IsListIter s.heap.objs.size l 1 := hI3.at fun o e => (Heap.get?_update_other _ _ neI.symm).trans e
  generalize H3.update H1.objs.size (Obj.mapSeq (fun _ => #[Value.ref a, Value.ref a])) = H4 at hS4 up4 hI4 ⊢
  refine wpAny_pure ⟨plainId_quiet F.plain_min_loop _, ?_⟩
  -- the second
  refine codeAny_builtin F.entry_min_loop ?_
  rw [Around.under_plainId F.plain_min_loop _]
  show wpAny _ A.in1 (seqItems? (.ref H1.objs.size) >>= _) _ _ _
  refine wpAny_bind (wpAny_seqItems hS4 rfl ?_)
  show wpAny _ A.in1 (tryCatch (pyNext (.ref s.heap.objs.size)) _ >>= _) _ _ _
  refine wpAny_bind (wpAny_tryCatch (wpAny_pyNext_list_item hI4 (x := .ref b) (lif hl fun o e => up4 _ _ hlt e) rfl fun H5 hI5 hs5 => ?_))
  have hS5 := hs5.extBut _ _ neI.symm hS4
  have up5 : ∀ c o, c < s.heap.objs.size → s.heap.get? c = some o → H5.get? c = some o := fun c o hc e => hs5.extBut _ _ (bl c hc).1 (up4 c o hc e)
  show wpAny _ A.in1 (tryCatch (holding [.ref b, .ref b] (richCompare .Lt (.ref b) (.ref a) >>= _)) _ >>= _) _ _ _
  refine wpAny_bind (wpAny_tryCatch (wpAny_holding (wpAny_bind (rich_lt (lif hb fun o e => up5 _ _ hblt e) (lif ha fun o e => up5 _ _ halt e) hu hv hn ?_))))
  refine wpAny_bind (wpAny_holding (wpAny_truthy_bool ?_))
  refine wpAny_bind (wpAny_letGo (wpAny_pure ?_))
  -- the end
  have fin : ∀ (v : Value) (H6 : Heap) (c6 : Nat) (tk : Nat), H6.get? H1.objs.size = some { cls := .type "list", dict := none, data := .seq #[v, v] c6 } → H6.IsListIter s.heap.objs.size l 2 → (∀ c o, c < s.heap.objs.size → s.heap.get? c = some o → H6.get? c = some o) →
      (∀ h' tk, (∀ c o, s.heap.get? c = some o → h'.get? c = some o) → Q v { s with heap := h', toks := tk }) →
      codeAny (model prog w) A (.builtin "min.loop" ⟨[.ref s.heap.objs.size, .none, .ref H1.objs.size], []⟩) (wants Q E) { s with heap := H6, toks := tk } := by
    intro v H6 c6 tk hS6 hI6 up6 hq
    refine codeAny_builtin F.entry_min_loop ?_
    rw [Around.under_plainId F.plain_min_loop _]
    show wpAny _ A.in1 (seqItems? (.ref H1.objs.size) >>= _) _ _ _
    refine wpAny_bind (wpAny_seqItems hS6 rfl ?_)
    show wpAny _ A.in1 (tryCatch (pyNext (.ref s.heap.objs.size)) _ >>= _) _ _ _
    refine wpAny_bind (wpAny_tryCatch (wpAny_pyNext_list_end hh hI6 (lif hl fun o e => up6 _ _ hlt e) rfl fun H7 hs7 => ?_))
    have hS7 := hs7 _ _ neI.symm hS6
    show wpAny _ A.in1 (updateSeq H1.objs.size (fun _ => #[]) >>= _) _ _ _
    refine wpAny_bind ?_
    refine wpAny_updateSeq hS7 rfl (wpAny_bind (wpAny_letGo (wpAny_pure ?_)))
    exact hq _ _ fun c o e => (Heap.get?_update_other _ _ (Ne.symm (bl c (Heap.lt_size e)).2)).trans (hs7 _ _ (bl c (Heap.lt_size e)).1 (up6 c o (Heap.lt_size e) e))
  cases q : ltL false ys xs with
  | true =>
    rw [q] at h
    simp only [if_true] at h ⊢
    refine wpAny_bind ?_
    refine wpAny_updateSeq hS5 rfl (wpAny_bind (wpAny_letGo ?_))
    rw [hname]
    refine wpAny_pure ⟨plainId_quiet F.plain_min_loop _, fin (.ref b) _ _ _ (Heap.get?_update_self _ hS5 rfl) (hI5.at fun o e => (Heap.get?_update_other _ _ neI.symm).trans e) (fun c o hc e => (Heap.get?_update_other _ _ (Ne.symm (bl c hc).2)).trans (up5 c o hc e)) h⟩
  | false =>
    rw [q] at h
    simp only [Bool.false_eq_true, if_false] at h ⊢
    refine wpAny_bind (wpAny_letGo ?_)
    rw [hname]
    exact wpAny_pure ⟨plainId_quiet F.plain_min_loop _, fin (.ref a) _ _ _ hS5 hI5 up5 h⟩
/-- the greatest of two lists of texts in a list -/
theorem max_two_lists {l a b : Addr} {vs us : List Value} {xs ys : List Str} {Q : Value → Shared → Prop} (hh : A.handled = none) (hl : s.heap.IsList l #[.ref a, .ref b]) (ha : s.heap.IsList a vs.toArray) (hb : s.heap.IsList b us.toArray) (hv : StrsAre vs xs) (hu : StrsAre us ys) (hn : A.units + 1 < cLine)
    (h : ∀ h' tk, (∀ c o, s.heap.get? c = some o → h'.get? c = some o) → Q (if ltL true ys xs = true then .ref b else .ref a) { s with heap := h', toks := tk }) :
    wpAny (model prog w) A (call (.builtin "max") [.ref l]) Q E s := by
  have hname : (toString "max" ++ toString ".loop" : String) = "max.loop" := by decide
  refine call_function_tree F.kind_max F.plain_max F.entry_max (F.args_max1 _) ?_
  show wpAny _ A.in1 (Builtin.Builtins.bindParams "max" ["key", "default"] 0 ⟨[], []⟩ >>= _) _ _ s
  refine wpAny_bind (wpAny_of_eq (show Builtin.Builtins.bindParams "max" ["key", "default"] 0 ⟨[], []⟩ = pure [none, none] from rfl) ?_)
  refine wpAny_bind (wpAny_pure ?_)
  have hlt : l < s.heap.objs.size := by obtain ⟨_, e, _⟩ := hl; exact Heap.lt_size e
  have halt : a < s.heap.objs.size := by obtain ⟨_, e, _⟩ := ha; exact Heap.lt_size e
  have hblt : b < s.heap.objs.size := by obtain ⟨_, e, _⟩ := hb; exact Heap.lt_size e
  refine wpAny_bind (wpAny_pyIter_list hl ?_)
  generalize hH1 : s.heap.push { cls := .type "list_iterator", data := .fields #[.ref l, .int 0 0] } = H1
  have hI : H1.IsListIter s.heap.objs.size l 0 := ⟨_, hH1 ▸ Heap.get?_push_size _ rfl, rfl, rfl⟩
  have hs1 : H1.objs.size = s.heap.objs.size + 1 := by rw [← hH1, Heap.size_push]
  have up1 : ∀ c o, s.heap.get? c = some o → H1.get? c = some o := fun c o e => hH1 ▸ Heap.get?_push_of_some _ e
  refine wpAny_bind (wpAny_newObj_type ?_)
  generalize hH2 : H1.push { cls := .type "list", dict := none, data := .seq ([] : List Value).toArray } = H2
  rw [hname]
  have up2 : ∀ c o, H1.get? c = some o → H2.get? c = some o := fun c o e => hH2 ▸ Heap.get?_push_of_some _ e
  have hS2 : H2.get? H1.objs.size = some { cls := .type "list", dict := none, data := .seq #[] } := hH2 ▸ Heap.get?_push_size _ rfl
  have hI2 : H2.IsListIter s.heap.objs.size l 0 := hI.at fun o e => up2 _ o e
  have neI : s.heap.objs.size ≠ H1.objs.size := by rw [hs1]; exact Nat.ne_of_lt (Nat.lt_succ_self _)
  refine wpAny_pure ⟨plainId_quiet F.plain_max_loop _, ?_⟩
  have lif : ∀ {c : Addr} {is : Array Value} {h1 h2 : Heap}, h1.IsList c is → (∀ o, h1.get? c = some o → h2.get? c = some o) → h2.IsList c is := fun x k => x.at k
  have bl : ∀ c, c < s.heap.objs.size → c ≠ s.heap.objs.size ∧ c ≠ H1.objs.size := fun c hc => ⟨Nat.ne_of_lt hc, by rw [hs1]; exact Nat.ne_of_lt (Nat.lt_succ_of_lt hc)⟩
  -- the first
  refine codeAny_builtin F.entry_max_loop ?_
  rw [Around.under_plainId F.plain_max_loop _]
  show wpAny _ A.in1 (seqItems? (.ref H1.objs.size) >>= _) _ _ _
  refine wpAny_bind (wpAny_seqItems hS2 rfl ?_)
  show wpAny _ A.in1 (tryCatch (pyNext (.ref s.heap.objs.size)) _ >>= _) _ _ _
  refine wpAny_bind (wpAny_tryCatch (wpAny_pyNext_list_item hI2 (x := .ref a) (lif hl fun o e => up2 _ _ (up1 _ _ e)) rfl fun H3 hI3 hs3 => ?_))
  have hS3 := hs3.extBut _ _ neI.symm hS2
  show wpAny _ A.in1 (updateSeq H1.objs.size (fun _ => #[.ref a, .ref a]) >>= _) _ _ _
  refine wpAny_bind ?_
  refine wpAny_updateSeq hS3 rfl ?_
  rw [hname]
  dsimp only
  have hS4 := Heap.get?_update_self (Obj.mapSeq (fun _ => #[Value.ref a, Value.ref a])) hS3 rfl
  have up4 : ∀ c o, c < s.heap.objs.size → s.heap.get? c = some o → (H3.update H1.objs.size (Obj.mapSeq (fun _ => #[Value.ref a, Value.ref a]))).get? c = some o := fun c o hc e =>
    (Heap.get?_update_other _ _ (Ne.symm (bl c hc).2)).trans (hs3.extBut _ _ (bl c hc).1 (up2 _ _ (up1 _ _ e)))
  have hI4 : (H3.update H1.objs.size (Obj.mapSeq (fun _ => #[Value.ref a, Value.ref a]))).IsListIter s.heap.objs.size l 1 := hI3.at fun o e => (Heap.get?_update_other _ _ neI.symm).trans e
  generalize H3.update H1.objs.size (Obj.mapSeq (fun _ => #[Value.ref a, Value.ref a])) = H4 at hS4 up4 hI4 ⊢
  refine wpAny_pure ⟨plainId_quiet F.plain_max_loop _, ?_⟩
  -- the second
  refine codeAny_builtin F.entry_max_loop ?_
  rw [Around.under_plainId F.plain_max_loop _]
  show wpAny _ A.in1 (seqItems? (.ref H1.objs.size) >>= _) _ _ _
  refine wpAny_bind (wpAny_seqItems hS4 rfl ?_)
  show wpAny _ A.in1 (tryCatch (pyNext (.ref s.heap.objs.size)) _ >>= _) _ _ _
  refine wpAny_bind (wpAny_tryCatch (wpAny_pyNext_list_item hI4 (x := .ref b) (lif hl fun o e => up4 _ _ hlt e) rfl fun H5 hI5 hs5 => ?_))
  have hS5 := hs5.extBut _ _ neI.symm hS4
  have up5 : ∀ c o, c < s.heap.objs.size → s.heap.get? c = some o → H5.get? c = some o := fun c o hc e => hs5.extBut _ _ (bl c hc).1 (up4 c o hc e)
  show wpAny _ A.in1 (tryCatch (holding [.ref b, .ref b] (richCompare .Gt (.ref b) (.ref a) >>= _)) _ >>= _) _ _ _
  refine wpAny_bind (wpAny_tryCatch (wpAny_holding (wpAny_bind (rich_gt (lif hb fun o e => up5 _ _ hblt e) (lif ha fun o e => up5 _ _ halt e) hu hv hn ?_))))
  refine wpAny_bind (wpAny_holding (wpAny_truthy_bool ?_))
  refine wpAny_bind (wpAny_letGo (wpAny_pure ?_))
  -- the end
  have fin : ∀ (v : Value) (H6 : Heap) (c6 : Nat) (tk : Nat), H6.get? H1.objs.size = some { cls := .type "list", dict := none, data := .seq #[v, v] c6 } → H6.IsListIter s.heap.objs.size l 2 → (∀ c o, c < s.heap.objs.size → s.heap.get? c = some o → H6.get? c = some o) →
      (∀ h' tk, (∀ c o, s.heap.get? c = some o → h'.get? c = some o) → Q v { s with heap := h', toks := tk }) →
      codeAny (model prog w) A (.builtin "max.loop" ⟨[.ref s.heap.objs.size, .none, .ref H1.objs.size], []⟩) (wants Q E) { s with heap := H6, toks := tk } := by
    intro v H6 c6 tk hS6 hI6 up6 hq
    refine codeAny_builtin F.entry_max_loop ?_
    rw [Around.under_plainId F.plain_max_loop _]
    show wpAny _ A.in1 (seqItems? (.ref H1.objs.size) >>= _) _ _ _
    refine wpAny_bind (wpAny_seqItems hS6 rfl ?_)
    show wpAny _ A.in1 (tryCatch (pyNext (.ref s.heap.objs.size)) _ >>= _) _ _ _
    refine wpAny_bind (wpAny_tryCatch (wpAny_pyNext_list_end hh hI6 (lif hl fun o e => up6 _ _ hlt e) rfl fun H7 hs7 => ?_))
    have hS7 := hs7 _ _ neI.symm hS6
    show wpAny _ A.in1 (updateSeq H1.objs.size (fun _ => #[]) >>= _) _ _ _
    refine wpAny_bind ?_
    refine wpAny_updateSeq hS7 rfl (wpAny_bind (wpAny_letGo (wpAny_pure ?_)))
    exact hq _ _ fun c o e => (Heap.get?_update_other _ _ (Ne.symm (bl c (Heap.lt_size e)).2)).trans (hs7 _ _ (bl c (Heap.lt_size e)).1 (up6 c o (Heap.lt_size e) e))
  cases q : ltL true ys xs with
  | true =>
    rw [q] at h
    simp only [if_true] at h ⊢
    refine wpAny_bind ?_
    refine wpAny_updateSeq hS5 rfl (wpAny_bind (wpAny_letGo ?_))
    rw [hname]
    refine wpAny_pure ⟨plainId_quiet F.plain_max_loop _, fin (.ref b) _ _ _ (Heap.get?_update_self _ hS5 rfl) (hI5.at fun o e => (Heap.get?_update_other _ _ neI.symm).trans e) (fun c o hc e => (Heap.get?_update_other _ _ (Ne.symm (bl c hc).2)).trans (up5 c o hc e)) h⟩
  | false =>
    rw [q] at h
    simp only [Bool.false_eq_true, if_false] at h ⊢
    refine wpAny_bind (wpAny_letGo ?_)
    rw [hname]
    exact wpAny_pure ⟨plainId_quiet F.plain_max_loop _, fin (.ref a) _ _ _ hS5 hI5 up5 h⟩
end

-- part setc
theorem reset_setc : True := by w_top off; trivial
section
theorem slot_si_next : Slot "set_iterator" "__next__" "set_iterator.__next__" :=
  .of (owner := "set_iterator") (n := "__next__") (by rw [typeLookup_type, builtinLookup_eq_fast]; kernel_rfl) (by decide +kernel) (by decide +kernel) (by decide +kernel)
    (by first | exact .inl (by decide +kernel) | exact .inr (by decide +kernel)) (by rw [isSubtype_type]; kernel_rfl)
theorem entry_si_next : entryFor table "set_iterator.__next__" = some Builtin.«set_iterator.__next__» := entryFor_of_tree (by kernel_rfl)
theorem args_si_next (a : Value) : argsOk "set_iterator.__next__" ⟨[a], []⟩ := by unfold argsOk; kernel_rfl
theorem entry_set_iter : entryFor table "set.__iter__" = some Builtin.«frozenset.__iter__» := entryFor_alias (id' := "frozenset.__iter__") (by kernel_rfl) rfl (by decide +kernel) (by kernel_rfl)
/-- the set of nothing, the set of one truth -/
noncomputable def setO (led : Bool) : Obj := { cls := .type "set", dict := none, data := .set #[] 0 (.fresh 0 0 led) }
noncomputable def tabO (led b : Bool) : SetTable := { mask := 7, place := #[if b then 1 else 0], dummies := #[], finger := 0, led := led, moves := 0, plain := true }
noncomputable def hB (b : Bool) : Int := if b then 1 else 0
noncomputable def setO1 (led b : Bool) : Obj := { cls := .type "set", dict := none, data := .set #[(hB b, .bool b)] 1 (tabO led b) }
noncomputable def ledOf (w : World) : Bool := !(w.params.followText "set-order")
variable {prog : Program} {w : World} {A : Around} {E : Value → Shared → Prop} {s : Shared} {D : Addr} {led b : Bool}
theorem wpAny_of_eq' {M : Model} {α : Type} {t t' : Sem α} {Q : α → Shared → Prop} (e : t = t') (h : wpAny M A t' Q E s) : wpAny M A t Q E s := by rw [e]; exact h
theorem hash_bool {Q : Int → Shared → Prop} (h : ∀ tk, Q (hB b) { s with toks := tk }) : wpAny (model prog w) A (pyHash (.bool b)) Q E s := by
  unfold pyHash
  have hv : [Value.bool b].any Value.onHeap = false := rfl
  refine wpAny_bind ?_
  rw [cRoomFor, if_neg (by rw [hv]; exact Bool.false_ne_true)]; refine wpAny_pure ?_
  refine wpAny_bind (wpAny_specialOf (T := "bool") rfl F.slot_bool_hash.lookup ?_)
  show wpAny _ _ (if (some (Value.builtin "int.__hash__") == some Value.none) = true then _ else _) Q E s
  rw [if_neg (by rw [beq_builtin_none]; exact Bool.false_ne_true)]
  refine wpAny_bind (wpAny_specialOf (T := "bool") rfl F.slot_bool_hash.lookup ?_)
  show wpAny _ _ (callSpecialIfBoundUnlessNone? (.bool b) "__hash__" _ >>= _) Q E s
  refine wpAny_bind (wpAny_callSpecialIfBoundUnlessNone?_slot (T := "bool") rfl F.slot_bool_hash
    (wpAny_call_entry F.slot_bool_hash (T := "bool") rfl F.entry_int_hash ?_ (F.args_int_hash_1 _)))
  refine wpAny_of_eq' (t' := (do ret (← mkInt (if b then 1 else 0)))) (by cases b <;> rfl) ?_
  refine wpAny_ret_mkInt ?_
  show wpAny _ _ (if (decide (-(2 : Int) ^ 63 ≤ (if b then 1 else 0)) && decide ((if b then 1 else 0 : Int) < 2 ^ 63)) = true then _ else _) Q E _
  rw [if_pos (by cases b <;> decide)]
  cases b <;> exact wpAny_pure (h _)
theorem new_set {Q : Value → Shared → Prop} (h : Q (.ref s.heap.objs.size) { s with heap := s.heap.push (setO (ledOf w)) }) : wpAny (model prog w) A (newSet (.type "set")) Q E s := by
  unfold newSet setsByText
  refine wpAny_bind (wpAny_bind (wpAny_askSetting (wpAny_pure ?_)))
  dsimp only
  simp only [newObj]
  exact wpAny_bind (wpAny_alloc (wpAny_pure h))
theorem add_first {Q : Value → Shared → Prop} (hD : s.heap.get? D = some (setO led)) (h : ∀ h' tk, Heap.SameBut D s.heap h' → h'.get? D = some (setO1 led b) → Q .none { s with heap := h', toks := tk }) :
    wpAny (model prog w) A (call (.builtin "set.add") [.ref D, .bool b]) Q E s := by
  refine wpAny_call_entry F.slot_set_add ⟨_, hD, rfl⟩ F.entry_set_add ?_ (F.args_set_add_2 _ _)
  unfold Builtin.«set.add» Builtin.Frozenset.oneOther
  simp only [List.isEmpty_nil, bind_assoc]
  unfold Builtin.Frozenset.addrOf setAdd
  refine wpAny_bind (wpAny_pure ?_)
  refine wpAny_bind (wpAny_pure ?_)
  refine wpAny_bind ?_
  refine wpAny_holding ?_
  refine wpAny_bind (hash_bool fun tk => ?_)
  unfold setAddHashed setAddHashedIn
  refine wpAny_holding (wpAny_bind (wpAny_setState_of hD rfl rfl ?_))
  dsimp only
  rw [show byScan (.bool b) (#[] : Array (Int × Value)) = true by unfold byScan; simp [Value.scannable, scanBound]]
  simp only [↓reduceIte]
  unfold setAddByScan
  refine wpAny_bind ?_
  refine wpAny_bind (wpAny_rule ?_)
  refine wpAny_bind (m := setScan D (.bool b) (hB b) true #[]) (wpAny_of_eq (a := .absent) rfl ?_)
  dsimp only
  rw [show layNew (SetTable.fresh 0 0 led) #[] (hB b) (.bool b) = (#[(hB b, .bool b)], tabO led b, false, false) by cases b <;> cases led <;> rfl]
  dsimp only
  refine wpAny_bind (wpAny_pure ?_)
  refine wpAny_bind (wpAny_pure ?_)
  simp only [↓reduceIte]
  refine wpAny_bind (wpAny_storeSet_of hD rfl ?_ (by show 1 ≤ sizeLine; decide))
  rw [show (!false && (tabO led b).tooFull) = false by cases b <;> cases led <;> rfl]
  simp only [Bool.false_eq_true, ↓reduceIte]
  refine wpAny_pure (wpAny_pure ?_)
  show wpAny _ _ (ret Value.none) _ _ _
  refine wpAny_pure ⟨_, rfl, h _ _ (Heap.SameBut.update _ _ _) ?_⟩
  exact Heap.get?_update_self _ hD rfl
theorem add_again {Q : Value → Shared → Prop} (hD : s.heap.get? D = some (setO1 led b)) (h : ∀ tk, Q .none { s with toks := tk }) :
    wpAny (model prog w) A (call (.builtin "set.add") [.ref D, .bool b]) Q E s := by
  refine wpAny_call_entry F.slot_set_add ⟨_, hD, rfl⟩ F.entry_set_add ?_ (F.args_set_add_2 _ _)
  unfold Builtin.«set.add» Builtin.Frozenset.oneOther
  simp only [List.isEmpty_nil, bind_assoc]
  unfold Builtin.Frozenset.addrOf setAdd
  refine wpAny_bind (wpAny_pure ?_)
  refine wpAny_bind (wpAny_pure ?_)
  refine wpAny_bind ?_
  refine wpAny_holding ?_
  refine wpAny_bind (hash_bool fun tk => ?_)
  unfold setAddHashed setAddHashedIn
  refine wpAny_holding (wpAny_bind (wpAny_setState_of hD rfl rfl ?_))
  dsimp only
  rw [show byScan (.bool b) (#[(hB b, .bool b)] : Array (Int × Value)) = true by unfold byScan; simp [Value.scannable, scanBound]]
  simp only [↓reduceIte]
  unfold setAddByScan
  refine wpAny_bind ?_
  refine wpAny_bind (wpAny_rule ?_)
  refine wpAny_bind (m := setScan D (.bool b) (hB b) true #[(hB b, .bool b)]) ?_
  show wpAny _ _ (setScanFrom D (.bool b) (hB b) true [(hB b, .bool b)] 0) _ _ _
  unfold setScanFrom
  rw [if_pos (by simp)]
  refine wpAny_bind (wpAny_setEpoch_of hD rfl rfl ?_)
  refine wpAny_bind (SeqAt.EqAt.bool_bool b b _ _ _ _ ?_)
  simp only [beq_self_eq_true, Bool.and_self, ↓reduceIte]
  refine wpAny_pure ?_
  refine wpAny_pure (wpAny_pure ?_)
  show wpAny _ _ (ret Value.none) _ _ _
  exact wpAny_pure ⟨_, rfl, h _⟩
end
section
open LCg
variable {prog : Program} {w : World} {A : Around} {E : Value → Shared → Prop} {s : Shared} {h₀ : Heap} {L : Addr} {m : Str → Option Value} {env : Env} {R : Result → Shared → Prop}
theorem compTurn_set (elt target iter : Expr) (scope : Scope) (pos : Pos) (it acc : Value) (env : Env) :
    compTurn (.SetComp elt [⟨target, iter, [], 0⟩] scope pos) 0 it acc env = (standAt iter.pos >>= fun _ => pyNext it >>= fun r => match r with
      | none => pure (.done .next)
      | some v => letOwnedTupleGo target it v >>= fun _ => assign target env v >>= fun _ => eval elt env >>= fun y => standAt elt.pos >>= fun _ => call (.builtin "set.add") [acc, y] >>= fun _ =>
        again (.compLoop (.SetComp elt [⟨target, iter, [], 0⟩] scope pos) 0 it acc env)) := by
  unfold compTurn
  simp only [List.getElem?_cons_zero, List.forIn_nil, bind_assoc, pure_bind, if_true]
  rfl
theorem codeAny_compStart_set {elt target iter ifs rest scope pos it acc env}
    (h0 : codeAny (model prog w) A (.compLoop (.SetComp elt (⟨target, iter, ifs, 0⟩ :: rest) scope pos) 0 it acc env) R s)
    (h : wpAny (model prog w) A (pyIter it) (fun it' s' => codeAny (model prog w) A (.compLoop (.SetComp elt (⟨target, iter, ifs, 0⟩ :: rest) scope pos) 0 it' acc env) R s')
      (notedBy (model prog w) A env fun x s' => R (.error x) s') s) :
    codeAny (model prog w) A (.compStart (.SetComp elt (⟨target, iter, ifs, 0⟩ :: rest) scope pos) 0 it acc env) R s := by
  refine codeAny_of_tree ?_
  show wpAny _ _ ((compStart (.SetComp elt (⟨target, iter, ifs, 0⟩ :: rest) scope pos) 0 it acc env).onRaise (fun x => do noteFrame x env; standAt theWindowsPlace)) _ _ s
  refine wpAny_notedAt ?_
  unfold compStart
  show wpAny _ _ (ask >>= _) _ _ s
  refine wpAny_bind (wpAny_askSetting (wpAny_ite ?_))
  split
  · first
      | exact wpAny_bind (wpAny_pure (wpAny_pure (And.intro rfl h0)))
      | exact wpAny_pure (And.intro rfl h0)
  · first
      | exact wpAny_bind (wpAny_rule (wpAny_bind (wpAny_standAt (wpAny_bind (wpAny_mono h (fun it' s' h' => wpAny_pure (And.intro rfl h')) fun _ _ x => x)))))
      | (refine wpAny_bind (wpAny_rule ?_); show wpAny _ _ (standAt iter.pos >>= _) _ _ s; exact wpAny_bind (wpAny_standAt (wpAny_bind (wpAny_mono h (fun it' s' h' => wpAny_pure (And.intro rfl h')) fun _ _ x => x))))
/-- a tuple of the ledger -/
noncomputable def TupIn (ax : Addr) (its : Array Value) (news : List (Addr × Obj)) : Prop := False ∨ ∃ o, (ax, o) ∈ news ∧ o.cls = .type "tuple" ∧ ∃ n, o.data = .seq its n
theorem TupIn.tup {h : Heap} {ax : Addr} {its : Array Value} {news : List (Addr × Obj)} (x : TupIn ax its news) (N : News h₀ L h news) : h.IsTuple ax its := by
  rcases x with x | ⟨o, hm, r⟩
  · exact x.elim
  · exact ⟨o, (N _ hm).1, r⟩
variable {elt iter : Expr} {x : Str} {px : Pos} {scope : Scope} {cl : List (Str × Addr)} {pos : Pos} {ax I C D : Addr} {its : Array Value} {b : Bool} {news : List (Addr × Obj)}
theorem set_turn {i : Nat} {v : Value} {oD oD' : Obj} {h : Heap} {tk : Nat} {m' : Str → Option Value} (hx : scope.names.lookup x = some .local) (hkind : scope.kind = .function)
    (hv : its[i]? = some v) (F : Fr h₀ L h m) (hI : h.IsTupleIter I ax i) (ht : TupIn ax its news) (hn : h.Ns C m') (hD : h.get? D = some oD) (N : News h₀ L h news) (off : Off3 I C D news) (ne : I ≠ C ∧ I ≠ D ∧ C ≠ D)
    (fI : h₀.get? I = none) (fC : h₀.get? C = none) (fD : h₀.get? D = none) (lI : L ≠ I) (lC : C ≠ L) (lD : D ≠ L)
    (turn : ∀ oI oC m₂ h tk (E' : Value → Shared → Prop), NsObj oC m₂ → m₂ x = some v → Fr h₀ L h m → News h₀ L h ((I, oI) :: (C, oC) :: (D, oD) :: news) →
      wpAny (model prog w) A (eval elt (compEnvC scope cl C env)) (CompEnd h₀ L m { s with heap := h, toks := tk } I oI C oC D oD (fun nw => nw = news) (fun y _ => y = .bool b)) E' { s with heap := h, toks := tk })
    (add : ∀ (s' : Shared) (Q E' : Value → Shared → Prop), s'.heap.get? D = some oD → (∀ h' tk, Heap.SameBut D s'.heap h' → h'.get? D = some oD' → Q .none { s' with heap := h', toks := tk }) → wpAny (model prog w) A (call (.builtin "set.add") [.ref D, .bool b]) Q E' s')
    (next : ∀ h' tk' m'', Fr h₀ L h' m → h'.IsTupleIter I ax (i + 1) → h'.Ns C m'' → h'.get? D = some oD' → News h₀ L h' news → codeAny (model prog w) A (.compLoop (.SetComp elt [⟨.Name x px, iter, [], 0⟩] scope pos) 0 (.ref I) (.ref D) (compEnvC scope cl C env)) R { s with heap := h', toks := tk' }) :
    codeAny (model prog w) A (.compLoop (.SetComp elt [⟨.Name x px, iter, [], 0⟩] scope pos) 0 (.ref I) (.ref D) (compEnvC scope cl C env)) R { s with heap := h, toks := tk } := by
  refine codeAny_of_tree ?_
  show wpAny _ A ((compTurn (.SetComp elt [⟨.Name x px, iter, [], 0⟩] scope pos) 0 (.ref I) (.ref D) (compEnvC scope cl C env)).onRaise (fun x => do noteFrame x (compEnvC scope cl C env); theTreesLotGoes x)) _ _ _
  refine wpAny_noted ?_
  rw [compTurn_set]
  have off3 := off.mem
  obtain ⟨hIC, hID, hCD⟩ := ne
  refine wpAny_bind (wpAny_standAt (wpAny_bind (wpAny_pyNext_tuple_item hI (ht.tup N) hv fun h₁ hI₁ hs₁ => ?_)))
  refine wpAny_bind (wpAny_of_eq (show letOwnedTupleGo (.Name x px) (.ref I) v = pure () from rfl) ?_)
  refine wpAny_bind (wpAny_assign_Name (wpAny_storeName_local (lookup_relabel_local hx) (hn.extBut hs₁.extBut hIC.symm) (fun h₂ hn₂ hs₂ => ?_) (by simp [compEnvC, relabel, hkind])))
  obtain ⟨oI, heI, hoI⟩ := hI₁
  have heI₂ : h₂.get? I = some oI := hs₂.extBut I _ hIC heI
  obtain ⟨oC, heC, hoC⟩ := ns_obj hn₂
  have F₁ : Fr h₀ L h₁ m := fr_but F (fun b o hb e => hs₁.extBut b o (by simpa using hb) e) lI fI
  have F₂ : Fr h₀ L h₂ m := F₁.change hs₂ lC fC
  have N₁ : News h₀ L h₁ news := news_but N (fun b o hb e => hs₁.extBut b o (by simpa using hb) e) fun p hp => (off3 p hp).1
  have N₂ : News h₀ L h₂ ((I, oI) :: (C, oC) :: (D, oD) :: news) := fun p hp => by
    rcases List.mem_cons.mp hp with rfl | hp
    · exact ⟨heI₂, lI.symm, fI⟩
    · rcases List.mem_cons.mp hp with rfl | hp
      · exact ⟨heC, lC, fC⟩
      · rcases List.mem_cons.mp hp with rfl | hp
        · exact ⟨hs₂.extBut D _ hCD.symm (hs₁.extBut D _ hID.symm hD), lD, fD⟩
        · exact ⟨hs₂.extBut _ _ (off3 p hp).2.1 (N₁ p hp).1, (N₁ p hp).2⟩
  refine wpAny_bind (wpAny_mono (turn oI oC _ h₂ _ _ hoC (by simp) F₂ N₂) (fun y s₄ h₄ => ?_) fun _ _ e => e)
  obtain ⟨h₄, tk₄, news₄, rfl, F₄, N₄, off₄, rfl, rfl⟩ := h₄
  have zI := (N₄ (I, oI) List.mem_cons_self).1
  have zC := (N₄ (C, oC) (List.mem_cons_of_mem _ List.mem_cons_self)).1
  have zD := (N₄ (D, oD) (List.mem_cons_of_mem _ (List.mem_cons_of_mem _ List.mem_cons_self))).1
  refine wpAny_bind (wpAny_standAt (wpAny_bind (add _ _ _ zD fun h₅ tk₅ hs₅ hD₅ => ?_)))
  refine wpAny_pure ⟨rfl, next h₅ tk₅ _ (F₄.change hs₅ lD fD) ⟨oI, hs₅.extBut I _ hID zI, hoI⟩ ((hoC.ns zC).sameBut hs₅ hCD) hD₅ fun p hp => ?_⟩
  have z := N₄ p (List.mem_cons_of_mem _ (List.mem_cons_of_mem _ (List.mem_cons_of_mem _ hp)))
  exact ⟨hs₅.extBut _ _ (off3 p hp).2.2 z.1, z.2⟩
noncomputable def SetSrc (prog : Program) (w : World) (A : Around) (h₀ : Heap) (L : Addr) (m : Str → Option Value) (env : Env) (elt : Expr) (x : Str) (scope : Scope) (cl : List (Str × Addr)) (v1 v2 : Value) (b : Bool) (Q : Value → Shared → Prop) (xv : Value) (s₁ : Shared) : Prop :=
  ∃ ax news, xv = .ref ax ∧ Fr h₀ L s₁.heap m ∧ News h₀ L s₁.heap news ∧ TupIn ax #[v1, v2] news ∧
      (∀ v, v = v1 ∨ v = v2 → ∀ I C D oI oC oD m₂ h tk (E' : Value → Shared → Prop), NsObj oC m₂ → m₂ x = some v → Fr h₀ L h m → News h₀ L h ((I, oI) :: (C, oC) :: (D, oD) :: news) → Off3 I C D news →
        wpAny (model prog w) A (eval elt (compEnvC scope cl C env)) (CompEnd h₀ L m { s₁ with heap := h, toks := tk } I oI C oC D oD (fun nw => nw = news) (fun y _ => y = .bool b)) E' { s₁ with heap := h, toks := tk }) ∧
      (∀ D h tk, Fr h₀ L h m → News h₀ L h ((D, setO1 (ledOf w) b) :: news) → Q (.ref D) { s₁ with heap := h, toks := tk })
theorem SetComp_two (v1 v2 : Value) {Q : Value → Shared → Prop} (_F₀ : Fr h₀ L s.heap m) (hh : A.handled = none)
    (hclos : closureFor scope env = pure cl) (hcell : ∀ y ∈ scope.names, y.2 ≠ .cell) (hkind : scope.kind = .function)
    (hnames : ∀ y ∈ scope.names, y.2 = .local → scope.names.lookup y.1 = some .local) (hx : scope.names.lookup x = some .local)
    (h : wpAny (model prog w) A (eval iter env) (SetSrc prog w A h₀ L m env elt x scope cl v1 v2 b Q) E s)
    (hs : ∀ x, foldedSetIterable iter env x = pure x := by intro _; rfl) :
    wpAny (model prog w) A (eval (.SetComp elt [⟨.Name x px, iter, [], 0⟩] scope pos) env) Q E s := by
  show wpAny _ _ (comprehension (.SetComp elt [⟨.Name x px, iter, [], 0⟩] scope pos) scope env (firstIterPos [⟨.Name x px, iter, [], 0⟩] pos) (newSet (.type "set")) (firstAsync [⟨.Name x px, iter, [], 0⟩]) (firstIter [⟨.Name x px, iter, [], 0⟩] env)) _ _ _
  refine wpAny_comprehension_free (use := none) rfl hs hclos hkind hnames (wpAny_mono h (fun xv s₁ h₁ => ?_) fun _ _ e => e)
  obtain ⟨ax, news, rfl, F, N, ht, turns, fin⟩ := h₁
  have htup := ht.tup N
  have hlt : ax < s₁.heap.objs.size := by obtain ⟨_, e, _⟩ := htup; exact Heap.lt_size e
  have hLlt : @LT.lt Nat _ L s₁.heap.objs.size := F.ns.lt
  refine wpAny_pyIter_tuple htup ?_
  generalize hH1 : s₁.heap.push { cls := .type "tuple_iterator", data := .fields #[.ref ax, .int 0 0] } = H1
  have hI : H1.IsTupleIter s₁.heap.objs.size ax 0 := ⟨_, hH1 ▸ Heap.get?_push_size _ rfl, rfl, rfl⟩
  have hs1 : H1.objs.size = s₁.heap.objs.size + 1 := by rw [← hH1, Heap.size_push]
  have up1 : ∀ c o, s₁.heap.get? c = some o → H1.get? c = some o := fun c o e => hH1 ▸ Heap.get?_push_of_some _ e
  refine new_set ?_
  generalize hH2 : H1.push (setO (ledOf w)) = H2
  have hs2 : H2.objs.size = s₁.heap.objs.size + 2 := by rw [← hH2, Heap.size_push, hs1]
  have up2 : ∀ c o, H1.get? c = some o → H2.get? c = some o := fun c o e => hH2 ▸ Heap.get?_push_of_some _ e
  have hD2 : H2.get? H1.objs.size = some (setO (ledOf w)) := hH2 ▸ Heap.get?_push_size _ rfl
  refine wpAny_newFunctionEnv hcell (by intro y hy; simp at hy) (fun h₁ hns₁ hsb₁ => ?_) hkind
  dsimp only at hns₁ hsb₁ ⊢
  have old : ∀ c o, H2.get? c = some o → h₁.get? c = some o := fun c o e => hsb₁.extBut c o (Nat.ne_of_lt (Heap.lt_size e)) (Heap.get?_push_of_some _ e)
  have fresh₀ : ∀ a, s₁.heap.objs.size ≤ a → h₀.get? a = none := fun a ha => by
    cases e : h₀.get? a with
    | none => rfl
    | some o' => exact absurd (Heap.lt_size (F.keep a o' e)) (Nat.not_lt.mpr ha)
  have fI := fresh₀ s₁.heap.objs.size (Nat.le_refl _)
  have fD := fresh₀ H1.objs.size (by omega)
  have fC := fresh₀ H2.objs.size (by omega)
  have lI : L ≠ s₁.heap.objs.size := Nat.ne_of_lt hLlt
  have lD : H1.objs.size ≠ L := Nat.ne_of_gt (by omega)
  have lC : H2.objs.size ≠ L := Nat.ne_of_gt (by omega)
  have ne : s₁.heap.objs.size ≠ H2.objs.size ∧ s₁.heap.objs.size ≠ H1.objs.size ∧ H2.objs.size ≠ H1.objs.size := ⟨Nat.ne_of_lt (by omega), Nat.ne_of_lt (by omega), Nat.ne_of_gt (by omega)⟩
  have up : ∀ c o, s₁.heap.get? c = some o → h₁.get? c = some o := fun c o e => old c o (up2 c o (up1 c o e))
  have F₁ : Fr h₀ L h₁ m := F.keeps up
  have N₁ : News h₀ L h₁ news := N.grown up
  have off : Off3 s₁.heap.objs.size H2.objs.size H1.objs.size news := Off3.of fun p hp => by
    have : @LT.lt Nat _ p.1 s₁.heap.objs.size := Heap.lt_size (N p hp).1
    exact ⟨Nat.ne_of_lt this, Nat.ne_of_lt (by omega), Nat.ne_of_lt (by omega)⟩
  have hI₁ : h₁.IsTupleIter s₁.heap.objs.size ax 0 := hI.at fun o e => old _ o (up2 _ o e)
  have loop : codeAny (model prog w) A (.compLoop (.SetComp elt [⟨.Name x px, iter, [], 0⟩] scope pos) 0 (.ref s₁.heap.objs.size) (.ref H1.objs.size) (compEnvC scope cl H2.objs.size env)) (compPost (model prog w) A E none Q (.ref H1.objs.size) H2.objs.size)
      { s₁ with heap := h₁, toks := s₁.toks + ([] : List (Str × Value)).length } := by
    refine set_turn (its := #[v1, v2]) (i := 0) (b := b) hx hkind rfl F₁ hI₁ ht hns₁ (old _ _ hD2) N₁ off ne fI fC fD lI lC lD (fun oI oC m₂ h tk E' a1 a2 a3 a4 => turns v1 (.inl rfl) _ _ _ oI oC _ m₂ h tk E' a1 a2 a3 a4 off)
      (fun s' Q' E' hd k => add_first hd fun h' tk => k h' tk) fun h₂ tk₂ m₂ F₂ hI₂ hn₂ hD₂ N₂ => ?_
    refine set_turn (its := #[v1, v2]) (i := 1) (b := b) hx hkind rfl F₂ hI₂ ht hn₂ hD₂ N₂ off ne fI fC fD lI lC lD (fun oI oC m₂ h tk E' a1 a2 a3 a4 => turns v2 (.inr rfl) _ _ _ oI oC _ m₂ h tk E' a1 a2 a3 a4 off)
      (fun s' Q' E' hd k => add_again hd fun tk => by
        have := k s'.heap tk (Heap.SameBut.refl _ _) hd
        obtain ⟨hp, g, d, t, os⟩ := s'; exact this) fun h₃ tk₃ m₃ F₃ hI₃ hn₃ hD₃ N₃ => ?_
    refine codeAny_of_tree ?_
    show wpAny _ A ((compTurn (.SetComp elt [⟨.Name x px, iter, [], 0⟩] scope pos) 0 (.ref s₁.heap.objs.size) (.ref H1.objs.size) (compEnvC scope cl H2.objs.size env)).onRaise (fun x => do noteFrame x (compEnvC scope cl H2.objs.size env); theTreesLotGoes x)) _ _ _
    refine wpAny_noted ?_
    rw [compTurn_set]
    refine wpAny_bind (wpAny_standAt (wpAny_bind (wpAny_pyNext_tuple_end hh hI₃ (ht.tup N₃) rfl fun h₄ hs₄ => wpAny_pure ?_)))
    have off3 := off.mem
    refine ⟨m₃, hn₃.at' fun o e => hs₄ _ o ne.1.symm e, fun h₅ hs₅ => ?_⟩
    have kp : ∀ c o, c ∉ [s₁.heap.objs.size] → h₃.get? c = some o → h₄.get? c = some o := fun c o hc e => hs₄ c o (by simpa using hc) e
    refine fin _ _ _ ((fr_but F₃ kp lI fI).change hs₅ lC fC) fun p hp => ?_
    rcases List.mem_cons.mp hp with rfl | hp
    · exact ⟨hs₅.extBut _ _ ne.2.2.symm (hs₄ _ _ ne.2.1.symm hD₃), lD, fD⟩
    · exact ⟨hs₅.extBut _ _ (off3 p hp).2.1 (hs₄ _ _ (off3 p hp).1 (N₃ p hp).1), (N₃ p hp).2⟩
  exact codeAny_compStart_set loop (wpAny_pyIter_tupleiter hI₁ loop)
end
section
variable {prog : Program} {w : World} {A : Around} {E : Value → Shared → Prop} {s : Shared} {D it : Addr} {b : Bool}
noncomputable abbrev IsSI (h : Heap) (it : Addr) (slot i : Nat) (D : Addr) : Prop := h.get? it = some { cls := .type "set_iterator", data := .fields #[.int slot 0, .int i 0, .ref D, .int 1 0, .int 1 0] }
theorem iter_set {Q : Value → Shared → Prop} (hD : s.heap.get? D = some (setO1 (ledOf w) b))
    (h : Q (.ref s.heap.objs.size) { s with heap := s.heap.push { cls := .type "set_iterator", data := .fields #[.int 0 0, .int 0 0, .ref D, .int 1 0, .int 1 0] } }) : wpAny (model prog w) A (pyIter (.ref D)) Q E s := by
  refine wpAny_pyIter_slot ⟨_, hD, rfl⟩ F.slot_set_iter (wpAny_call_entry F.slot_set_iter ⟨_, hD, rfl⟩ entry_set_iter ?_ (F.args_set_iter_1 _))
  unfold Builtin.«frozenset.__iter__» Builtin.Frozenset.slot0
  refine wpAny_bind (wpAny_of_eq (a := D) rfl ?_)
  unfold Builtin.Frozenset.sizeOf
  refine wpAny_bind (wpAny_bind (wpAny_setEntries_of hD rfl rfl (wpAny_pure ?_)))
  unfold setDrawn setsByText
  refine wpAny_bind (wpAny_bind (wpAny_setState_of hD rfl rfl (wpAny_bind (wpAny_bind (wpAny_askSetting (wpAny_pure ?_))))))
  refine wpAny_pure ?_
  dsimp only
  split
  · rename_i q
    rw [Bool.and_eq_true] at q
    exact Bool.noConfusion (show false = true from q.2)
  refine wpAny_bind (wpAny_pure ?_)
  refine wpAny_bind (wpAny_setEpoch_of hD rfl rfl ?_)
  show wpAny _ _ (newFields "set_iterator" [rawInt 0, rawInt 0, .ref D, rawInt 1, rawInt 1] >>= fun v => ret v) _ _ _
  exact wpAny_bind (wpAny_newObj_type (wpAny_pure ⟨_, rfl, "set_iterator", _, ⟨_, Heap.get?_push_size _ rfl, rfl⟩, slot_si_next.lookup, h⟩))
theorem pick_one {α : Type} (f : Nat → Nat) (x : α) : pickOrder f #[x] = #[x] := by simp [pickOrder, pickOrder.go, Nat.mod_one]
/-- the place behind the one sign -/
noncomputable def plB (b : Bool) : Nat := if b then 2 else 1
theorem set_walk1 {led : Bool} {Q : Array (Int × Value) → Shared → Prop} (hD : s.heap.get? D = some (setO1 led b)) (hw : w.params.followText "set-order" = true) (h : Q #[(hB b, .bool b)] s) : wpAny (model prog w) A (setWalk D) Q E s := by
  unfold setWalk setsByText
  refine wpAny_bind (wpAny_setState_of hD rfl rfl (wpAny_bind (wpAny_bind (wpAny_askSetting (wpAny_pure ?_)))))
  show wpAny _ _ (if w.params.followText "set-order" = true then _ else _) _ _ _
  rw [if_pos hw]
  refine wpAny_bind (wpAny_askSetting (wpAny_pure ?_))
  rw [pick_one]; exact h
theorem set_next0 {led : Bool} {Q : Option (Value × Nat) → Shared → Prop} (hl : led = !(w.params.followText "set-order")) (hD : s.heap.get? D = some (setO1 led b))
    (h : ∀ n, (w.params.followText "set-order" = false → n = plB b) → Q (some (.bool b, n)) s) : wpAny (model prog w) A (setNext D 0 0 1) Q E s := by
  unfold setNext setsByText
  refine wpAny_bind (wpAny_setState_of hD rfl rfl (wpAny_bind (wpAny_bind (wpAny_askSetting (wpAny_pure ?_)))))
  show wpAny _ _ (if w.params.followText "set-order" = true then _ else _) _ _ _
  cases q : w.params.followText "set-order" with
  | true =>
    rw [if_pos rfl]
    refine wpAny_ite_split (fun z => Bool.noConfusion (show false = true from z)) fun _ => ?_
    refine wpAny_bind (set_walk1 hD q (wpAny_pure ?_))
    exact h 0 fun z => by rw [q] at z; cases z
  | false =>
    rw [q] at hl
    subst hl
    rw [if_neg (by simp)]
    refine wpAny_ite_split (fun z => Bool.noConfusion (show false = true from z)) fun _ => ?_
    refine wpAny_bind (wpAny_of_eq (a := ()) rfl ?_)
    refine wpAny_pure ?_
    have := h (plB b) fun _ => rfl
    cases b <;> exact this
theorem set_next1 {led : Bool} {n : Nat} {Q : Option (Value × Nat) → Shared → Prop} (hl : led = !(w.params.followText "set-order")) (hD : s.heap.get? D = some (setO1 led b)) (hn : w.params.followText "set-order" = false → n = plB b)
    (h : Q none s) : wpAny (model prog w) A (setNext D n 1 1) Q E s := by
  unfold setNext setsByText
  refine wpAny_bind (wpAny_setState_of hD rfl rfl (wpAny_bind (wpAny_bind (wpAny_askSetting (wpAny_pure ?_)))))
  show wpAny _ _ (if w.params.followText "set-order" = true then _ else _) _ _ _
  cases q : w.params.followText "set-order" with
  | true =>
    rw [if_pos rfl]
    refine wpAny_ite_split (fun z => Bool.noConfusion (show false = true from z)) fun _ => ?_
    refine wpAny_bind (set_walk1 hD q (wpAny_pure ?_))
    exact h
  | false =>
    rw [q] at hl
    rw [hn q]
    subst hl
    rw [if_neg (by simp)]
    refine wpAny_ite_split (fun z => Bool.noConfusion (show false = true from z)) fun _ => ?_
    refine wpAny_bind (wpAny_of_eq (a := ()) rfl ?_)
    refine wpAny_pure ?_
    cases b <;> exact h
theorem next_set {Q : Option Value → Shared → Prop} (hD : s.heap.get? D = some (setO1 (ledOf w) b)) (hI : IsSI s.heap it 0 0 D)
    (h : ∀ h' n, IsSI h' it n 1 D → (w.params.followText "set-order" = false → n = plB b) → Heap.SameBut it s.heap h' → Q (some (.bool b)) { s with heap := h' }) : wpAny (model prog w) A (pyNext (.ref it)) Q E s := by
  have hT : s.TypeIs (.ref it) "set_iterator" := ⟨_, hI, rfl⟩
  unfold pyNext
  refine wpAny_bind (wpAny_attempt (wpAny_callSpecial?_slot (name := Str.ofString "__next__") hT slot_si_next
    (wpAny_call_entry slot_si_next hT entry_si_next ?_ (args_si_next _))))
  unfold Builtin.«set_iterator.__next__»
  refine wpAny_bind (wpAny_of_eq (a := (.ref it, [])) rfl ?_)
  refine wpAny_bind (wpAny_fieldsOf hI rfl ?_)
  dsimp only
  refine wpAny_bind (wpAny_setEntries_of hD rfl rfl ?_)
  refine wpAny_ite_split (fun z => Bool.noConfusion (show false = true from z)) fun _ => ?_
  refine wpAny_bind (set_next0 rfl hD fun n hn => ?_)
  dsimp only
  refine wpAny_bind (wpAny_setField_rec hI (by simp) fun h₁ hI₁ hs₁ => ?_)
  refine wpAny_bind (wpAny_setField_rec hI₁ (by simp) fun h₂ hI₂ hs₂ => ?_)
  exact wpAny_pure ⟨_, rfl, wpAny_pure (h h₂ n hI₂ hn (hs₁.trans hs₂))⟩
theorem end_set {n : Nat} {Q : Option Value → Shared → Prop} (hh : A.handled = none) (hD : s.heap.get? D = some (setO1 (ledOf w) b)) (hI : IsSI s.heap it n 1 D) (hn : w.params.followText "set-order" = false → n = plB b)
    (h : ∀ h', Heap.ExtBut it s.heap h' → Q none { s with heap := h' }) : wpAny (model prog w) A (pyNext (.ref it)) Q E s := by
  have hT : s.TypeIs (.ref it) "set_iterator" := ⟨_, hI, rfl⟩
  unfold pyNext
  refine wpAny_bind (wpAny_attempt (wpAny_callSpecial?_slot (name := Str.ofString "__next__") hT slot_si_next
    (wpAny_call_entry slot_si_next hT entry_si_next ?_ (args_si_next _))))
  unfold Builtin.«set_iterator.__next__»
  refine wpAny_bind (wpAny_of_eq (a := (.ref it, [])) rfl ?_)
  refine wpAny_bind (wpAny_fieldsOf hI rfl ?_)
  dsimp only
  refine wpAny_bind (wpAny_setEntries_of hD rfl rfl ?_)
  refine wpAny_ite_split (fun z => Bool.noConfusion (show false = true from z)) fun _ => ?_
  refine wpAny_bind (set_next1 rfl hD hn ?_)
  dsimp only
  refine wpAny_bind (wpAny_setField_rec hI (by simp) fun h₁ hI₁ hs₁ => ?_)
  show wpAny _ _ (newExc (.type "StopIteration") [] >>= _) _ _ _
  refine wpAny_bind ?_
  simp only [newExc, newTuple]
  refine wpAny_bind (wpAny_newObj_type ?_ (by size_fits))
  refine wpAny_bind (m := firstArgMember _ _) (wpAny_of_eq (a := Value.none) (by first | rfl | (simp only [firstArgMember]; rfl)) ?_)
  refine wpAny_newObj_type ?_ (by size_fits)
  simp only [raiseNew]
  refine wpAny_bind (wpAny_handled ?_)
  first | rw [show A.in1.handled = none from hh] | rw [hh]
  refine wpAny_bind (wpAny_pure (wpAny_throw ?_))
  refine wpAny_bind (wpAny_isInstance (T := "StopIteration") (b := true) ⟨_, Heap.get?_push_size _ rfl, rfl⟩ isSubtype_stop ?_)
  exact wpAny_pure (h _ ((hs₁.extBut.push _).push _))
variable {env : Env} {h₀ : Heap} {L : Addr} {m : Str → Option Value} {news : List (Addr × Obj)} {elts : List Expr} {k : Nat} {pos : Pos}
/-- one truth unpacked from a set of it -/
theorem unpack_set {Q : Unit → Shared → Prop} (F : Fr h₀ L s.heap m) (N : News h₀ L s.heap news) (hm : (D, setO1 (ledOf w) b) ∈ news) (hh : A.handled = none) (hn : (assignEach elts env).length = 1)
    (hstar : (assignEach elts env).findIdx? (·.1) = none) (h : ∀ h', Fr h₀ L h' m → News h₀ L h' news → wpAny (model prog w) A (assignInOrder ((assignEach elts env).map (·.2)) [.bool b]) Q E { s with heap := h' }) :
    wpAny (model prog w) A (assign (.Tuple elts k pos) env (.ref D)) Q E s := by
  rw [assign_Tuple]
  refine wpAny_bind (wpAny_standAt ?_)
  unfold unpack
  rw [hn, hstar]
  have hD : s.heap.get? D = some (setO1 (ledOf w) b) := (N _ hm).1
  have hlt : D < s.heap.objs.size := Heap.lt_size hD
  refine wpAny_bind (wpAny_holding ?_)
  unfold unpackItems
  refine wpAny_bind ?_
  unfold notIterableAtAll
  refine wpAny_bind (wpAny_specialOf (T := "set") ⟨_, hD, rfl⟩ PySem.F.slot_set_iter.lookup ?_)
  refine wpAny_pure ?_
  simp only [Bool.false_eq_true, if_false]
  refine wpAny_bind (wpAny_holding (iter_set hD ?_))
  have hne : D ≠ s.heap.objs.size := Nat.ne_of_lt hlt
  show wpAny _ _ (holding _ (pyNext (.ref s.heap.objs.size) >>= _) >>= _) _ _ _
  refine wpAny_bind (wpAny_holding (wpAny_bind (next_set (D := D) (b := b) (Heap.get?_push_of_some _ hD) (Heap.get?_push_size _ rfl) fun h₁ n hI hn' hs₁ => ?_)))
  show wpAny _ _ (holding _ (pure []) >>= _) _ _ _
  refine wpAny_bind (wpAny_holding (wpAny_pure (wpAny_pure ?_)))
  rw [if_neg (by simp)]
  refine wpAny_bind (wpAny_holding (end_set hh (hs₁.extBut _ _ hne (Heap.get?_push_of_some _ hD)) hI hn' fun h₂ hs₂ => ?_))
  simp only [Option.isSome_none, Bool.false_eq_true, if_false]
  have e : Heap.ExtBut s.heap.objs.size s.heap h₂ := fun c o hc e => hs₂ c o hc (hs₁.extBut c o hc (Heap.get?_push_of_some _ e))
  exact wpAny_pure (h h₂ (F.extBut e (Nat.le_refl _)) (N.extBut e (Nat.le_refl _)))
end

-- part mapt
theorem reset_mapt : True := by w_top off; trivial
section
theorem slot_map_next : Slot "map" "__next__" "map.__next__" :=
  .of (owner := "map") (n := "__next__") (by rw [typeLookup_type, builtinLookup_eq_fast]; kernel_rfl) (by decide +kernel) (by decide +kernel) (by decide +kernel)
    (by first | exact .inl (by decide +kernel) | exact .inr (by decide +kernel)) (by rw [isSubtype_type]; kernel_rfl)
theorem entry_map_next : entryFor table "map.__next__" = some Builtin.«map.__next__» := entryFor_of_tree (by kernel_rfl)
theorem args_map_next (a : Value) : argsOk "map.__next__" ⟨[a], []⟩ := by unfold argsOk; kernel_rfl
theorem slot_map_iter : Slot "map" "__iter__" "map.__iter__" :=
  .of (owner := "map") (n := "__iter__") (by rw [typeLookup_type, builtinLookup_eq_fast]; kernel_rfl) (by decide +kernel) (by decide +kernel) (by decide +kernel)
    (by first | exact .inl (by decide +kernel) | exact .inr (by decide +kernel)) (by rw [isSubtype_type]; kernel_rfl)
theorem entry_map_iter : entryFor table "map.__iter__" = some Builtin.«dict_keyiterator.__iter__» :=
  entryFor_alias (id' := "dict_keyiterator.__iter__") (by kernel_rfl) (by first | rfl | decide +kernel | (unfold String.splitOn; simp +decide [String.splitOnAux])) (by decide +kernel) (by kernel_rfl)
theorem args_map_iter (a : Value) : argsOk "map.__iter__" ⟨[a], []⟩ := by unfold argsOk; kernel_rfl
theorem slot_map_init : Slot "map" "__init__" "object.__init__" :=
  .of (owner := "object") (n := "__init__") (by rw [typeLookup_type, builtinLookup_eq_fast]; kernel_rfl) (by decide +kernel) (by decide +kernel) (by decide +kernel)
    (by first | exact .inl (by decide +kernel) | exact .inr (by decide +kernel)) (by rw [isSubtype_type]; kernel_rfl)
theorem mro_map : mroOf (.type "map") = pure [.type "map", .type "object"] := by rw [mroOf_type]; kernel_rfl
theorem lookup_map_new : typeLookup (.type "map") "__new__" = pure (some (.builtin "map.__new__")) := by rw [typeLookup_type, builtinLookup_eq_fast]; kernel_rfl
theorem called_map : TypeCalled "map" "map.__new__" "object.__init__" :=
  ⟨by decide +kernel, by decide +kernel, ⟨_, _, mro_map⟩, madeBy_type mro_map lookup_map_new (by decide +kernel), by decide +kernel, by rw [isSubtype_type]; kernel_rfl, slot_map_init⟩
theorem typeCall_map_2 (a b : Value) : checkTypeCall "map" ⟨[a, b], []⟩ = pure () := by kernel_rfl
theorem newCall_map_2 (a b : Value) : checkBuiltinCall "map.__new__" ⟨[.type "map", a, b], []⟩ = pure () := by kernel_rfl
theorem entry_map_new : entryFor table "map.__new__" = some Builtin.«map.__new__» := entryFor_of_tree (by kernel_rfl)
theorem sub_map : isSubtype (.type "map") (.type "map") = pure true := by rw [isSubtype_type]; kernel_rfl
theorem map_no_len : typeLookup (.type "map") "__len__" = pure none := by rw [typeLookup_type, builtinLookup_eq_fast]; kernel_rfl
theorem map_no_hint : typeLookup (.type "map") "__length_hint__" = pure none := by rw [typeLookup_type, builtinLookup_eq_fast]; kernel_rfl
noncomputable abbrev mapO (T1 f : Addr) : Obj := { cls := .type "map", data := .fields #[.ref T1, .ref f] }
noncomputable abbrev tup1 (I : Addr) : Obj := { cls := .type "tuple", data := .seq #[.ref I] }
noncomputable abbrev litO (l : Addr) (i : Nat) : Obj := { cls := .type "list_iterator", data := .fields #[.ref l, .int i 0] }
theorem meets_map_new (f l : Addr) (xs : Array Value) :
    Meets (Builtin.«map.__new__» ⟨[.type "map", .ref f, .ref l], []⟩) (fun _ R s => s.heap.IsList l xs ∧
      R (.ok (.ret (.ref ((s.heap.push (litO l 0)).push (tup1 s.heap.objs.size)).objs.size))) { s with heap := ((s.heap.push (litO l 0)).push (tup1 s.heap.objs.size)).push (mapO (s.heap.push (litO l 0)).objs.size f) }) :=
  .of_wp fun prog w A R s h => by
    obtain ⟨hp, g, d, tk, os⟩ := s; obtain ⟨hl1, h⟩ := h
    have hsub := sub_map
    have hL1 : Heap.IsList (Shared.heap ⟨hp, g, d, tk, os⟩) l xs := hl1
    wp_walk using wpAny_pyIter_list hL1
    exact ⟨_, rfl, h⟩
end
section
variable {prog : Program} {w : World} {A : Around} {E : Value → Shared → Prop} {s : Shared} {h₀ : Heap} {L f l I M T1 : Addr} {m : Str → Option Value} {news : List (Addr × Obj)} {items : Array Value}
theorem call_map {Q : Value → Shared → Prop} (F : Fr h₀ L s.heap m) (N : News h₀ L s.heap news) (hl : h₀.IsList l items)
    (h : ∀ I T1 M h', Fr h₀ L h' m → News h₀ L h' ((M, mapO T1 f) :: (T1, tup1 I) :: (I, litO l 0) :: news) → (I ≠ T1 ∧ I ≠ M ∧ T1 ≠ M ∧ ∀ p ∈ news, p.1 ≠ I) → Q (.ref M) { s with heap := h' }) :
    wpAny (model prog w) A (call (.type "map") [.ref f, .ref l]) Q E s := by
  have hl' : s.heap.IsList l items := by obtain ⟨o, e, r⟩ := hl; exact ⟨o, F.keep _ _ e, r⟩
  refine callType_new called_map (by decide) (typeCall_map_2 _ _) (newCall_map_2 _ _) (fun obj => PySem.F.args_object_init_3 obj _ _) entry_map_new
    (meets_map_new f l items) ⟨hl', ?_⟩
  have z1 : (s.heap.push (litO l 0)).objs.size = s.heap.objs.size + 1 := Heap.size_push ..
  have z2 : ((s.heap.push (litO l 0)).push (tup1 s.heap.objs.size)).objs.size = s.heap.objs.size + 2 := by rw [Heap.size_push, z1]
  have g3 : (((s.heap.push (litO l 0)).push (tup1 s.heap.objs.size)).push (mapO (s.heap.push (litO l 0)).objs.size f)).get? ((s.heap.push (litO l 0)).push (tup1 s.heap.objs.size)).objs.size = some (mapO (s.heap.push (litO l 0)).objs.size f) := Heap.get?_push_size _ rfl
  have g2 : (((s.heap.push (litO l 0)).push (tup1 s.heap.objs.size)).push (mapO (s.heap.push (litO l 0)).objs.size f)).get? (s.heap.push (litO l 0)).objs.size = some (tup1 s.heap.objs.size) := Heap.get?_push_of_some _ (Heap.get?_push_size _ rfl)
  have g1 : (((s.heap.push (litO l 0)).push (tup1 s.heap.objs.size)).push (mapO (s.heap.push (litO l 0)).objs.size f)).get? s.heap.objs.size = some (litO l 0) := Heap.get?_push_of_some _ (Heap.get?_push_of_some _ (Heap.get?_push_size _ rfl))
  have up : ∀ c o, s.heap.get? c = some o → (((s.heap.push (litO l 0)).push (tup1 s.heap.objs.size)).push (mapO (s.heap.push (litO l 0)).objs.size f)).get? c = some o := fun c o e => Heap.get?_push_of_some _ (Heap.get?_push_of_some _ (Heap.get?_push_of_some _ e))
  have hL : @LT.lt Nat _ L s.heap.objs.size := F.ns.lt
  have fr : ∀ a, s.heap.objs.size ≤ a → h₀.get? a = none := fun a ha => by
    cases e : h₀.get? a with
    | none => rfl
    | some o' => exact absurd (Heap.lt_size (F.keep a o' e)) (Nat.not_lt.mpr ha)
  refine ⟨⟨_, g3, rfl⟩, h s.heap.objs.size (s.heap.push (litO l 0)).objs.size _ _ (F.keeps up) (fun p hp => ?_) ⟨Nat.ne_of_lt (by omega), Nat.ne_of_lt (by omega), Nat.ne_of_lt (by omega), fun p hp => Nat.ne_of_lt (Heap.lt_size (N p hp).1)⟩⟩
  rcases List.mem_cons.mp hp with rfl | hp
  · exact ⟨g3, Nat.ne_of_gt (by omega), fr _ (by omega)⟩
  rcases List.mem_cons.mp hp with rfl | hp
  · exact ⟨g2, Nat.ne_of_gt (by omega), fr _ (by omega)⟩
  rcases List.mem_cons.mp hp with rfl | hp
  · exact ⟨g1, Nat.ne_of_gt hL, fr _ (Nat.le_refl _)⟩
  · exact ⟨up _ _ (N p hp).1, (N p hp).2⟩
theorem iter_map {Q : Value → Shared → Prop} (hM : s.heap.get? M = some (mapO T1 f)) (h : Q (.ref M) s) : wpAny (model prog w) A (pyIter (.ref M)) Q E s := by
  have hT : s.TypeIs (.ref M) "map" := ⟨_, hM, rfl⟩
  refine wpAny_pyIter_slot hT slot_map_iter (wpAny_call_entry slot_map_iter hT entry_map_iter ?_ (args_map_iter _))
  show wpAny _ _ (ret (.ref M)) _ _ s
  exact wpAny_pure ⟨_, rfl, "map", _, hT, slot_map_next.lookup, h⟩
/-- what the def mapped gives, in any frame's ledger -/
noncomputable abbrev MapsTo (prog : Program) (w : World) (A : Around) (h₀ : Heap) (L : Addr) (m : Str → Option Value) (f : Addr) (s : Shared) (v : Value) (P : Value → Prop) : Prop :=
  ∀ (A' : Around) (Q E : Value → Shared → Prop) (h : Heap) (tk : Nat) (nw : List (Addr × Obj)), A'.handled = none → A'.depth = A.depth → Fr h₀ L h m → News h₀ L h nw →
    (∀ v' h' tk', P v' → Fr h₀ L h' m → News h₀ L h' nw → Q v' { s with heap := h', toks := tk' }) → wpAny (model prog w) A' (call (.ref f) [v]) Q E { s with heap := h, toks := tk }
noncomputable def LitO (o : Obj) (l : Addr) (i : Nat) : Prop := o.cls = .type "list_iterator" ∧ o.data = .fields #[.ref l, .int i 0]
theorem fr_but' {h h' : Heap} (F : Fr h₀ L h m) (hs : Heap.ExtBut I h h') (hL : I ≠ L) (hI : h₀.get? I = none) : Fr h₀ L h' m := LCg.fr_but F (fun b o hb e => hs b o (by simpa using hb) e) hL.symm hI
theorem map_next {i : Nat} {v : Value} {P : Value → Prop} {h : Heap} {tk : Nat} {oI : Obj} {Q : Option Value → Shared → Prop} (F : Fr h₀ L h m) (hl : h₀.IsList l items)
    (N : News h₀ L h ((M, mapO T1 f) :: (T1, tup1 I) :: (I, oI) :: news)) (lo : LitO oI l i) (off : I ≠ T1 ∧ I ≠ M ∧ T1 ≠ M ∧ ∀ p ∈ news, p.1 ≠ I) (hv : items[i]? = some v) (hh : A.handled = none) (hf : MapsTo prog w A h₀ L m f s v P)
    (k : ∀ v' h' tk' oI', P v' → LitO oI' l (i + 1) → Fr h₀ L h' m → News h₀ L h' ((M, mapO T1 f) :: (T1, tup1 I) :: (I, oI') :: news) → Q (some v') { s with heap := h', toks := tk' }) :
    wpAny (model prog w) A (pyNext (.ref M)) Q E { s with heap := h, toks := tk } := by
  have hM : h.get? M = some (mapO T1 f) := (N _ (.head _)).1
  have hT1 : h.get? T1 = some (tup1 I) := (N _ (.tail _ (.head _))).1
  have hI : h.get? I = some oI := (N _ (.tail _ (.tail _ (.head _)))).1
  have hT : Shared.TypeIs { s with heap := h, toks := tk } (.ref M) "map" := ⟨_, hM, rfl⟩
  have hI0 := (N _ (.tail _ (.tail _ (.head _)))).2
  unfold pyNext
  refine wpAny_bind (wpAny_attempt (wpAny_callSpecial?_slot (name := Str.ofString "__next__") hT slot_map_next
    (wpAny_call_entry slot_map_next hT entry_map_next ?_ (args_map_next _))))
  unfold Builtin.«map.__next__»
  refine wpAny_bind (wpAny_of_eq (a := (.ref M, [])) rfl ?_)
  refine wpAny_bind (wpAny_field hM rfl (x := .ref T1) rfl ?_)
  refine wpAny_bind (wpAny_seqItems hT1 rfl ?_)
  dsimp only
  rw [← Array.forIn_toList]
  simp only [List.forIn_cons, List.forIn_nil]
  refine wpAny_bind (wpAny_bind (wpAny_bind (wpAny_holding (wpAny_nextOf_list_item (l := l) (i := i) (items := items) ⟨_, hI, lo.1, lo.2⟩ (by obtain ⟨o, e, r⟩ := hl; exact ⟨o, F.keep _ _ e, r⟩) hv fun h₁ hI₁ hs₁ => ?_))))
  refine wpAny_pure (wpAny_pure ?_)
  have F₁ : Fr h₀ L h₁ m := F.change hs₁ hI0.1 hI0.2
  obtain ⟨oI', e1, lo'⟩ := hI₁
  have N₁ : News h₀ L h₁ ((M, mapO T1 f) :: (T1, tup1 I) :: (I, oI') :: news) := fun p hp => by
    rcases List.mem_cons.mp hp with rfl | hp
    · exact ⟨hs₁.extBut _ _ off.2.1.symm hM, (N _ (.head _)).2⟩
    rcases List.mem_cons.mp hp with rfl | hp
    · exact ⟨hs₁.extBut _ _ off.1.symm hT1, (N _ (.tail _ (.head _))).2⟩
    rcases List.mem_cons.mp hp with rfl | hp
    · exact ⟨e1, hI0⟩
    · have z := N p (.tail _ (.tail _ (.tail _ hp)))
      exact ⟨hs₁.extBut _ _ (off.2.2.2 p hp) z.1, z.2⟩
  refine wpAny_bind (wpAny_field (N₁ _ (.head _)).1 rfl (x := .ref f) rfl ?_)
  refine wpAny_bind (wpAny_holding ?_)
  refine hf A.in1 _ _ h₁ tk _ hh rfl F₁ N₁ fun v' h₂ tk₂ hP F₂ N₂ => ?_
  refine wpAny_bind (wpAny_letGo (wpAny_pure ⟨v', rfl, wpAny_pure (k v' h₂ tk₂ oI' hP lo' F₂ N₂)⟩))
theorem map_end {i : Nat} {h : Heap} {tk : Nat} {oI : Obj} {Q : Option Value → Shared → Prop} (hh : A.handled = none) (F : Fr h₀ L h m) (hl : h₀.IsList l items)
    (N : News h₀ L h ((M, mapO T1 f) :: (T1, tup1 I) :: (I, oI) :: news)) (lo : LitO oI l i) (off : I ≠ T1 ∧ I ≠ M ∧ T1 ≠ M ∧ ∀ p ∈ news, p.1 ≠ I) (hv : items[i]? = none)
    (k : ∀ h', Fr h₀ L h' m → News h₀ L h' news → Q none { s with heap := h', toks := tk }) :
    wpAny (model prog w) A (pyNext (.ref M)) Q E { s with heap := h, toks := tk } := by
  have hM : h.get? M = some (mapO T1 f) := (N _ (.head _)).1
  have hT1 : h.get? T1 = some (tup1 I) := (N _ (.tail _ (.head _))).1
  have hI : h.get? I = some oI := (N _ (.tail _ (.tail _ (.head _)))).1
  have hT : Shared.TypeIs { s with heap := h, toks := tk } (.ref M) "map" := ⟨_, hM, rfl⟩
  have hI0 := (N _ (.tail _ (.tail _ (.head _)))).2
  unfold pyNext
  refine wpAny_bind (wpAny_attempt (wpAny_callSpecial?_slot (name := Str.ofString "__next__") hT slot_map_next
    (wpAny_call_entry slot_map_next hT entry_map_next ?_ (args_map_next _))))
  unfold Builtin.«map.__next__»
  refine wpAny_bind (wpAny_of_eq (a := (.ref M, [])) rfl ?_)
  refine wpAny_bind (wpAny_field hM rfl (x := .ref T1) rfl ?_)
  refine wpAny_bind (wpAny_seqItems hT1 rfl ?_)
  dsimp only
  rw [← Array.forIn_toList]
  simp only [List.forIn_cons, List.forIn_nil]
  refine wpAny_bind (wpAny_bind (wpAny_bind (wpAny_holding (wpAny_nextOf_list_end (l := l) (i := i) (items := items) hh ⟨_, hI, lo.1, lo.2⟩ (by obtain ⟨o, e, r⟩ := hl; exact ⟨o, F.keep _ _ e, r⟩) hv fun h₁ e hs₁ he => ?_))))
  obtain ⟨o, ho, hc⟩ := he
  refine wpAny_bind (wpAny_isInstance (T := "StopIteration") (b := true) ⟨o, ho, hc⟩ isSubtype_stop ?_)
  refine wpAny_pure (k h₁ (fr_but' F hs₁ hI0.1 hI0.2) fun p hp => ?_)
  have z := N p (.tail _ (.tail _ (.tail _ hp)))
  exact ⟨hs₁ _ _ (off.2.2.2 p hp) z.1, z.2⟩
noncomputable abbrev lisO (acc : Array Value) (c : Nat) : Obj := { cls := .type "list", dict := none, data := .seq acc c, slots := #[] }
theorem news_upd {S : Addr} {h : Heap} {o o' : Obj} {a b : List (Addr × Obj)} {h' : Heap} (N : News h₀ L h (a ++ (S, o) :: b)) (hs : Heap.SameBut S h h') (e : h'.get? S = some o') (oa : ∀ p ∈ a, p.1 ≠ S) (ob : ∀ p ∈ b, p.1 ≠ S) : News h₀ L h' (a ++ (S, o') :: b) := fun p hp => by
  rcases List.mem_append.mp hp with hp | hp
  · have z := N p (List.mem_append_left _ hp)
    exact ⟨hs.extBut _ _ (oa p hp) z.1, z.2⟩
  · rcases List.mem_cons.mp hp with rfl | hp
    · exact ⟨e, (N (S, o) (List.mem_append_right _ (.head _))).2⟩
    · have z := N p (List.mem_append_right _ (.tail _ hp))
      exact ⟨hs.extBut _ _ (ob p hp) z.1, z.2⟩
theorem ext_turn {i : Nat} {v res : Value} {P : Value → Prop} {h : Heap} {tk c : Nat} {oI : Obj} {S : Addr} {acc : Array Value} {R : Result → Shared → Prop} (F : Fr h₀ L h m) (hl : h₀.IsList l items)
    (N : News h₀ L h ((M, mapO T1 f) :: (T1, tup1 I) :: (I, oI) :: (S, lisO acc c) :: news)) (lo : LitO oI l i) (off : I ≠ T1 ∧ I ≠ M ∧ T1 ≠ M ∧ ∀ p ∈ news, p.1 ≠ I) (offS : M ≠ S ∧ T1 ≠ S ∧ I ≠ S ∧ ∀ p ∈ news, p.1 ≠ S)
    (hv : items[i]? = some v) (hh : A.handled = none) (hf : MapsTo prog w A h₀ L m f s v P) (hsz : acc.size + 1 ≤ sizeLine)
    (next : ∀ u h' tk' c' oI', P u → LitO oI' l (i + 1) → Fr h₀ L h' m → News h₀ L h' ((M, mapO T1 f) :: (T1, tup1 I) :: (I, oI') :: (S, lisO (acc.push u) c') :: news) → codeAny (model prog w) A (.builtin "list.extend.loop" ⟨[.ref S, .ref M, res], []⟩) R { s with heap := h', toks := tk' }) :
    codeAny (model prog w) A (.builtin "list.extend.loop" ⟨[.ref S, .ref M, res], []⟩) R { s with heap := h, toks := tk } := by
  refine codeAny_builtin PySem.F.entry_extend_loop ?_
  rw [Around.under_plainId PySem.F.plain_extend_loop _]
  show wpAny _ A.in1 (pyNext (.ref M) >>= _) _ _ _
  refine wpAny_bind (map_next (A := A.in1) (news := (S, lisO acc c) :: news) F hl N lo ⟨off.1, off.2.1, off.2.2.1, fun p hp => ?_⟩ hv hh hf fun u h₁ tk₁ oI' hP lo' F₁ N₁ => ?_)
  · rcases List.mem_cons.mp hp with rfl | hp
    · exact offS.2.2.1.symm
    · exact off.2.2.2 p hp
  have hS : h₁.get? S = some (lisO acc c) := (N₁ _ (.tail _ (.tail _ (.tail _ (.head _))))).1
  have hS0 := (N₁ _ (.tail _ (.tail _ (.tail _ (.head _))))).2
  show wpAny _ A.in1 (updateSeq S (·.push u) >>= _) _ _ _
  refine wpAny_bind (wpAny_updateSeq hS rfl (wpAny_pure ⟨plainId_quiet PySem.F.plain_extend_loop _, ?_⟩) (by show acc.size ≤ sizeLine; omega) (by show (acc.push u).size ≤ sizeLine + 1; rw [Array.size_push]; omega))
  have hs := Heap.SameBut.update h₁ S (Obj.mapSeq (·.push u))
  refine next u _ _ _ oI' hP lo' (F₁.change hs hS0.1 hS0.2) (news_upd (a := [(M, mapO T1 f), (T1, tup1 I), (I, oI')]) N₁ hs (Heap.get?_update_self _ hS rfl) (fun p hp => ?_) offS.2.2.2)
  simp only [List.mem_cons, List.mem_nil_iff, or_false] at hp
  rcases hp with rfl | rfl | rfl
  · exact offS.1
  · exact offS.2.1
  · exact offS.2.2.1
theorem collect_map {v1 v2 : Value} {P1 P2 : Value → Prop} {oI : Obj} {h : Heap} {tk : Nat} {Q : List Value → Shared → Prop} (F : Fr h₀ L h m) (hl : h₀.IsList l #[v1, v2])
    (N : News h₀ L h ((M, mapO T1 f) :: (T1, tup1 I) :: (I, oI) :: news)) (lo : LitO oI l 0) (off : I ≠ T1 ∧ I ≠ M ∧ T1 ≠ M ∧ ∀ p ∈ news, p.1 ≠ I) (hh : A.handled = none) (h1 : MapsTo prog w A h₀ L m f s v1 P1) (h2 : MapsTo prog w A h₀ L m f s v2 P2)
    (k : ∀ u1 u2 h' tk', P1 u1 → P2 u2 → Fr h₀ L h' m → News h₀ L h' news → Q [u1, u2] { s with heap := h', toks := tk' }) :
    wpAny (model prog w) A (collect (.ref M)) Q E { s with heap := h, toks := tk } := by
  have hM : h.get? M = some (mapO T1 f) := (N _ (.head _)).1
  have ltM := Heap.lt_size hM
  have ltT : T1 < h.objs.size := Heap.lt_size (N _ (.tail _ (.head _))).1
  have ltI : I < h.objs.size := Heap.lt_size (N _ (.tail _ (.tail _ (.head _)))).1
  have hSI : h.objs.size ≠ M := Nat.ne_of_gt ltM
  have hL : @LT.lt Nat _ L h.objs.size := F.ns.lt
  have hS0 : h.objs.size ≠ L ∧ h₀.get? h.objs.size = none := ⟨Nat.ne_of_gt hL, by
    cases e : h₀.get? h.objs.size with
    | none => rfl
    | some o' => exact absurd (Heap.lt_size (F.keep _ o' e)) (Nat.lt_irrefl _)⟩
  unfold collect
  refine wpAny_bind (wpAny_runValue (codeAny_builtin PySem.F.entry_proto_collect ?_))
  rw [Around.under_plainId PySem.F.plain_proto_collect _]
  show wpAny _ A.in1 (newList [] >>= fun l => again (.builtin "list.__iadd__" ⟨[l, .ref M], []⟩)) _ _ _
  refine wpAny_bind (wpAny_newObj_type ?_)
  generalize hH1 : h.push { cls := .type "list", data := .seq ([] : List Value).toArray } = H1
  refine wpAny_pure ⟨plainId_quiet PySem.F.plain_list_iadd _, codeAny_builtin PySem.F.entry_list_iadd ?_⟩
  rw [Around.under_plainId PySem.F.plain_list_iadd _]
  have up : ∀ b o, h.get? b = some o → H1.get? b = some o := fun b o e => hH1 ▸ Heap.get?_push_of_some _ e
  have hS₁ : H1.get? h.objs.size = some (lisO #[] 0) := hH1 ▸ Heap.get?_push_size _ rfl
  have hM₁ : H1.get? M = some (mapO T1 f) := up _ _ hM
  show wpAny _ A.in1 (Builtin.List.listExtendWith (.ref h.objs.size) (.ref M) (.ref h.objs.size)) _ _ _
  unfold Builtin.List.listExtendWith
  refine wpAny_bind (wpAny_typeOf (T := "map") ⟨_, hM₁, rfl⟩ ?_)
  have e1 : Builtin.List.listSameRef (.ref h.objs.size) (.ref M) = false := by simp [Builtin.List.listSameRef, hSI]
  have e2 : (Value.type "map" == Value.type "list") = false := by decide
  have e3 : (Value.type "map" == Value.type "tuple") = false := by decide
  simp only [e1, e2, e3, Bool.or_false, Bool.false_eq_true, if_false]
  refine wpAny_bind (iter_map hM₁ ?_)
  refine wpAny_bind (wpAny_holding ?_)
  unfold Builtin.List.listLengthHint
  refine wpAny_bind (wpAny_specialOf (T := "map") ⟨_, hM₁, rfl⟩ map_no_len ?_)
  show wpAny _ A.in1 (specialOf (Value.ref M) (Str.ofString "__length_hint__") >>= _) _ _ _
  refine wpAny_bind (wpAny_specialOf (T := "map") ⟨_, hM₁, rfl⟩ map_no_hint ?_)
  refine wpAny_pure ?_
  show wpAny _ A.in1 (rule "list.extend.makes-room" >>= fun _ => Builtin.List.listTouch (.ref h.objs.size) >>= fun _ =>
    again (.builtin "list.extend.loop" ⟨[.ref h.objs.size, .ref M, .ref h.objs.size], []⟩)) _ _ _
  refine wpAny_bind (wpAny_rule ?_)
  refine wpAny_bind ?_
  show wpAny _ A.in1 (updateSeq h.objs.size (·.push .none) >>= fun _ => updateSeq h.objs.size (·.pop)) _ _ _
  refine wpAny_bind (wpAny_updateSeq hS₁ rfl ?_)
  have hS₂ := Heap.get?_update_self (Obj.mapSeq (·.push Value.none)) hS₁ rfl
  refine wpAny_updateSeq hS₂ rfl ?_
  have hS₃ := Heap.get?_update_self (Obj.mapSeq (·.pop)) hS₂ rfl
  have hs : Heap.SameBut h.objs.size H1 ((H1.update h.objs.size (Obj.mapSeq (·.push Value.none))).update h.objs.size (Obj.mapSeq (·.pop))) := (Heap.SameBut.update ..).trans (Heap.SameBut.update ..)
  dsimp only
  generalize (H1.update h.objs.size (Obj.mapSeq (·.push Value.none))).update h.objs.size (Obj.mapSeq (·.pop)) = H3 at hS₃ hs ⊢
  have F₃ : Fr h₀ L H3 m := (F.keeps up).change hs hS0.1 hS0.2
  have up3 : ∀ b o, h.get? b = some o → H3.get? b = some o := fun b o e => hs.extBut _ _ (Nat.ne_of_lt (Heap.lt_size e)) (up b o e)
  have N₃ : News h₀ L H3 ((M, mapO T1 f) :: (T1, tup1 I) :: (I, oI) :: (h.objs.size, lisO #[] 2) :: news) := fun p hp => by
    rcases List.mem_cons.mp hp with rfl | hp
    · have z := N _ (.head _); exact ⟨up3 _ _ z.1, z.2⟩
    rcases List.mem_cons.mp hp with rfl | hp
    · have z := N _ (.tail _ (.head _)); exact ⟨up3 _ _ z.1, z.2⟩
    rcases List.mem_cons.mp hp with rfl | hp
    · have z := N _ (.tail _ (.tail _ (.head _))); exact ⟨up3 _ _ z.1, z.2⟩
    rcases List.mem_cons.mp hp with rfl | hp
    · exact ⟨hS₃, hS0⟩
    · have z := N p (.tail _ (.tail _ (.tail _ hp))); exact ⟨up3 _ _ z.1, z.2⟩
  have offS : M ≠ h.objs.size ∧ T1 ≠ h.objs.size ∧ I ≠ h.objs.size ∧ ∀ p ∈ news, p.1 ≠ h.objs.size := ⟨Nat.ne_of_lt ltM, Nat.ne_of_lt ltT, Nat.ne_of_lt ltI, fun p hp => Nat.ne_of_lt (Heap.lt_size (N p (.tail _ (.tail _ (.tail _ hp)))).1)⟩
  refine wpAny_pure ⟨plainId_quiet PySem.F.plain_extend_loop _, ?_⟩
  refine ext_turn F₃ hl N₃ lo off offS rfl hh h1 (by decide) fun u1 h₄ tk₄ c₄ o₄ hP1 lo₄ F₄ N₄ => ?_
  refine ext_turn F₄ hl N₄ lo₄ off offS rfl hh h2 (by show 1 + 1 ≤ sizeLine; decide) fun u2 h₅ tk₅ c₅ o₅ hP2 lo₅ F₅ N₅ => ?_
  refine codeAny_builtin PySem.F.entry_extend_loop ?_
  rw [Around.under_plainId PySem.F.plain_extend_loop _]
  show wpAny _ A.in1 (pyNext (.ref M) >>= _) _ _ _
  refine wpAny_bind (map_end (A := A.in1) hh F₅ hl N₅ lo₅ ⟨off.1, off.2.1, off.2.2.1, fun p hp => ?_⟩ rfl fun h₆ F₆ N₆ => wpAny_pure ?_)
  · rcases List.mem_cons.mp hp with rfl | hp
    · exact offS.2.2.1.symm
    · exact off.2.2.2 p hp
  show wpAny _ A (load h.objs.size >>= _) _ _ _
  refine wpAny_bind (wpAny_load (N₆ _ (.head _)).1 ?_)
  exact wpAny_pure (k u1 u2 h₆ _ hP1 hP2 F₆ fun p hp => N₆ p (.tail _ hp))
/-- a tuple of what a def gives for the two items of a list -/
theorem tuple_map_two {v1 v2 : Value} {P1 P2 : Value → Prop} {oI : Obj} {h : Heap} {tk : Nat} {Q : Value → Shared → Prop} (hh : A.handled = none) (F : Fr h₀ L h m) (hl : h₀.IsList l #[v1, v2])
    (N : News h₀ L h ((M, mapO T1 f) :: (T1, tup1 I) :: (I, oI) :: news)) (lo : LitO oI l 0) (off : I ≠ T1 ∧ I ≠ M ∧ T1 ≠ M ∧ ∀ p ∈ news, p.1 ≠ I) (h1 : MapsTo prog w A h₀ L m f s v1 P1) (h2 : MapsTo prog w A h₀ L m f s v2 P2)
    (k : ∀ u1 u2 a h' tk', P1 u1 → P2 u2 → Fr h₀ L h' m → News h₀ L h' ((a, { cls := .type "tuple", data := .seq #[u1, u2] }) :: news) → Q (.ref a) { s with heap := h', toks := tk' }) :
    wpAny (model prog w) A (call (.type "tuple") [.ref M]) Q E { s with heap := h, toks := tk } := by
  refine callType_codes (Q₁ := fun obj s₁ => s₁.TypeIs obj "tuple" ∧ Q obj s₁) PySem.F.called_tuple (PySem.F.typeCall_tuple_1 _) PySem.F.entry_object_init ?_ fun obj s₁ h₁ => ?_
  · have hM : h.get? M = some (mapO T1 f) := (N _ (.head _)).1
    refine codeAny_of_tree ?_
    show wpAny _ A.in1.in1 (do checkBuiltinCall "tuple.__new__" ⟨[.type "tuple", .ref M], []⟩; again (.builtin "tuple.__new__" ⟨[.type "tuple", .ref M], []⟩)) _ _ _
    refine wpAny_bind (wpAny_of_eq (PySem.F.newCall_tuple_1 _) (wpAny_pure ⟨plainId_quiet PySem.F.plain_tuple_new _, codeAny_builtin PySem.F.entry_tuple_new ?_⟩))
    rw [Around.under_plainId PySem.F.plain_tuple_new _]
    have hsub := sub_tuple_self
    have hinit := init_tuple_lookup
    have hmh := madeHere_tuple
    have hTI : Shared.TypeIs { s with heap := h, toks := tk } (.ref M) "map" := ⟨_, hM, rfl⟩
    wp_walk using wpAny_typeOf hTI, collect_map (A := A.in1.in1) F hl N lo off hh h1 h2
    intro u1 u2 h' tk' hP1 hP2 F' N'
    show wpAny _ _ (Builtin.Tuple.tupleExact [u1, u2].toArray >>= fun v => ret v) _ _ _
    unfold Builtin.Tuple.tupleExact
    refine wpAny_bind (wpAny_newObj_type ?_ (by show 2 ≤ sizeLine; decide))
    refine wpAny_pure ?_
    have hL : @LT.lt Nat _ L h'.objs.size := F'.ns.lt
    refine ⟨⟨_, Heap.get?_push_size _ rfl, rfl⟩, k u1 u2 _ _ _ hP1 hP2 (F'.keeps fun b o e => Heap.get?_push_of_some _ e) fun p hp => ?_⟩
    rcases List.mem_cons.mp hp with rfl | hp
    · refine ⟨Heap.get?_push_size _ rfl, Nat.ne_of_gt hL, ?_⟩
      cases e : h₀.get? h'.objs.size with
      | none => rfl
      | some o' => exact absurd (Heap.lt_size (F'.keep _ o' e)) (Nat.lt_irrefl _)
    · exact ⟨Heap.get?_push_of_some _ (N' p hp).1, (N' p hp).2⟩
  · exact ⟨h₁.1, PySem.F.args_object_init_2 obj _, object_init_meets PySem.F.called_tuple.init.lookup PySem.F.called_tuple.made (by decide) prog w A.in1 _ s₁ ⟨h₁.1, rfl, h₁.2⟩⟩
end

-- part compt
theorem reset_compt : True := by w_top off; trivial
section
open LCg
variable {prog : Program} {w : World} {A : Around} {E : Value → Shared → Prop} {s : Shared} {h₀ : Heap} {L : Addr} {m : Str → Option Value} {env : Env}
theorem tup_st {ax I : Addr} {its : Array Value} : ∀ i (h h' : Heap) (o : Obj) (nw : List (Addr × Obj)), (h.IsTupleIter I ax i ∧ h.IsTuple ax its) → h.get? I = some o → h'.get? I = some o → (∀ b o, h₀.get? b = some o → h'.get? b = some o) → News h₀ L h' nw → TupIn ax its nw → (h'.IsTupleIter I ax i ∧ h'.IsTuple ax its) :=
  fun i h h' o nw st e e' k N S => ⟨by obtain ⟨o', q, r⟩ := st.1; rw [e] at q; cases q; exact ⟨o, e', r⟩, S.tup N⟩
/-- a list made over a tuple of the ledger, stored under a name -/
theorem Assign_ListComp_tup {elt iter : Expr} {x y : Str} {px py : Pos} {scope : Scope} {cl : List (Str × Addr)} {pos spos : Pos} {Q : Flow → Shared → Prop} {ax : Addr} {its : Array Value} {news : List (Addr × Obj)} (hLe : env.locals = L) (hh : A.handled = none)
    (hsw : swapsWith (.ListComp elt [⟨.Name x px, iter, [], 0⟩] scope pos) (some (.Name y py)) spos.line env = pure true)
    (hclos : closureFor scope env = pure cl) (hcell : ∀ z ∈ scope.names, z.2 ≠ .cell) (hkind : scope.kind = .function)
    (hnames : ∀ z ∈ scope.names, z.2 = .local → scope.names.lookup z.1 = some .local) (hx : scope.names.lookup x = some .local)
    (hy : env.kindOf y = some .local) (hp : (env.scope.kind == .class || (env.scope.kind == .module && env.locals != env.globals)) = false)
    (hit : wpAny (model prog w) A (eval iter env) (fun xv s₁ => xv = .ref ax ∧ s₁ = s) E s) (F : Fr h₀ L s.heap m) (N : News h₀ L s.heap news) (S : TupIn ax its news) (hsz : its.size ≤ sizeLine)
    (R : ∀ h, CompRest prog w A h₀ L m env elt x scope cl { s with heap := h } (TupIn ax its) (fun i v => its[i]? = some v) (FinA h₀ L m { s with heap := h } y Q) its.size 0 [] news)
    (hs : ∀ x, foldedSetIterable iter env x = pure x := by intro _; rfl) :
    wpAny (model prog w) A (exec (.Assign [.Name y py] (.ListComp elt [⟨.Name x px, iter, [], 0⟩] scope pos) spos) env) Q E s := by
  subst hLe
  rw [exec_Assign_Name_used _ _ _ _ hsw]
  refine wpAny_bind (wpAny_standAt (wpAny_bind ?_))
  show wpAny _ A (do let _ ← comprehension (.ListComp elt [⟨.Name x px, iter, [], 0⟩] scope pos) scope env _ (newList []) false (eval iter env) (some (assign (.Name y py) env))) _ _ s
  refine wpAny_bind (wpAny_mono (wpAny_comprehension_free (use := some (assign (.Name y py) env)) (Q := fun _ s' => Q .next s') rfl hs hclos hkind hnames
    (wpAny_mono hit (fun xv s₁ h₁ => ?_) fun _ _ e => e)) (fun _ s' hq => wpAny_pure (wpAny_pure hq)) fun _ _ e => e)
  obtain ⟨rfl, rfl⟩ := h₁
  have hl := S.tup N
  have hlt : ax < s₁.heap.objs.size := by obtain ⟨_, e, _⟩ := hl; exact Heap.lt_size e
  refine wpAny_pyIter_tuple hl ?_
  have up : ∀ b o, s₁.heap.get? b = some o → (s₁.heap.push { cls := .type "tuple_iterator", data := .fields #[.ref ax, .int 0 0] }).get? b = some o := fun b o e => Heap.get?_push_of_some _ e
  refine block_U (Walks.tuple hh s₁.heap.objs.size ax (Nat.ne_of_lt hlt) its) hsz (fun i h st => by obtain ⟨o, e, _⟩ := st.1; exact ⟨o, e⟩) tup_st hcell hkind hx ⟨⟨_, Heap.get?_push_size _ rfl, rfl, rfl⟩, hl.push _⟩ (fun b hb => ?_)
    (F.keeps up) (N.grown up) (Nat.ne_of_lt F.ns.lt) (next_is_new F) (fun p hp => Nat.ne_of_lt (Heap.lt_size (N p hp).1)) S (R _) ?_
  · show b < (s₁.heap.push _).objs.size
    rw [Heap.size_push]
    rcases List.mem_cons.mp hb with rfl | hb
    · exact Nat.lt_succ_self _
    · rw [List.mem_singleton.mp hb]; exact Nat.lt_succ_of_lt hlt
  · intro D C h' tk m' ys news' F' N' o1 hn hC₀ hD₀ hCL hDL hCD offC fin
    show wpAny _ A (assign (.Name y py) env (.ref D)) _ _ _
    refine wpAny_assign_Name (wpAny_storeName_local hy F'.ns (fun h₂ hn₂ hs₂ => ?_) hp)
    have hL₀ : h₀.get? env.locals = none := Heap.get?_none_of_le F'.above
    have F₂ : Fr h₀ env.locals h₂ (fun z => if z = y then some (.ref D) else m z) := ⟨hn₂, fun b o e => hs₂.extBut b o (fun q => by rw [q, hL₀] at e; cases e) (F'.keep b o e), F'.above⟩
    refine ⟨m', hn.sameBut hs₂ hCL, fun h'' hs'' => fin D h'' _ (F₂.change hs'' hCL hC₀) (fun p hp => ?_) o1⟩
    have z : h₂.get? p.1 = some p.2 := hs₂.extBut _ _ (N' p hp).2.1 (N' p hp).1
    refine ⟨hs''.extBut _ _ ?_ z, (N' p hp).2⟩
    rcases List.mem_cons.mp hp with rfl | hp
    · exact Ne.symm hCD
    · exact offC p hp
/-- the end of a test in a block -/
inductive TestEnd (h₀ : Heap) (L : Addr) (m : Str → Option Value) (all : List (Addr × Obj)) (s : Shared) (b : Bool) : Bool → Shared → Prop
  | mk (h' : Heap) (tk' : Nat) : Fr h₀ L h' m → News h₀ L h' all → TestEnd h₀ L m all s b b { s with heap := h', toks := tk' }
theorem TestEnd.of {all : List (Addr × Obj)} {b c : Bool} {h' : Heap} {tk' : Nat} (e : c = b) (F : Fr h₀ L h' m) (N : News h₀ L h' all) : TestEnd h₀ L m all s b c { s with heap := h', toks := tk' } := by subst e; exact .mk _ _ F N
/-- the texts of a list that pass a test -/
theorem rest_texts {ct : Expr} {x : Str} {px : Pos} {scope : Scope} {cl : List (Str × Addr)} {S : List (Addr × Obj) → Prop} {Fin : List Value → List (Addr × Obj) → Prop} {news : List (Addr × Obj)} {vs : List Value} {xs : List Str} (p : Str → Bool) (hs : StrsAre vs xs) (hS : S news)
    (hkind : scope.kind = .function) (hx : scope.names.lookup x = some .local) (hd : (x == ("__debug__" : Str)) = false)
    (turn : ∀ y t I oI C oC D m₂ ys h tk (E' : Value → Shared → Prop), y ∈ xs → NsObj oC m₂ → m₂ x = some (.str y t) → Fr h₀ L h m → News h₀ L h ((I, oI) :: (C, oC) :: (D, LCg.lst ys) :: news) → Off3 I C D news →
      wpAny (model prog w) A (isTrue ct (compEnvC scope cl C env) (eval ct (compEnvC scope cl C env))) (TestEnd h₀ L m ((I, oI) :: (C, oC) :: (D, LCg.lst ys) :: news) { s with heap := h, toks := tk } (p y)) E' { s with heap := h, toks := tk })
    (fin : ∀ ys, StrsAre ys (xs.filter p) → Fin ys news) :
    LCt.CompRestT prog w A h₀ L m env ct (.Name x px) x scope cl s S (fun i v => vs.toArray[i]? = some v) Fin vs.toArray.size 0 [] news := by
  have hl := hs.length
  have key : ∀ (j i : Nat) (ys : List Value), i + j = vs.length → StrsAre ys ((xs.take i).filter p) → LCt.CompRestT prog w A h₀ L m env ct (.Name x px) x scope cl s S (fun i v => vs.toArray[i]? = some v) Fin j i ys news := by
    intro j
    induction j with
    | zero =>
      intro i ys hi hy
      rw [List.take_of_length_le (by omega)] at hy
      exact LCt.CompRestT.zero (fin ys hy)
    | succ j ih =>
      intro i ys hi hy
      refine LCt.CompRestT.succ ?_
      intro v I oI C oC D m₂ h tk E' hv hC hx' F N off ne
      obtain ⟨y, t, e1, e2⟩ := strs_nth hs i (by omega)
      have hv' : v = .str y t := by
        have : vs.toArray[i]? = vs[i]? := by simp
        rw [this, e1] at hv; exact (Option.some.inj hv).symm
      subst hv'
      refine wpAny_mono (turn y t I oI C oC D m₂ ys h tk E' (List.mem_of_getElem? e2) hC hx' F N off) (fun ok s' hq => ?_) fun _ _ e => e
      cases hq with
      | mk h' tk' F' N' =>
        cases q : p y with
        | true =>
          rw [if_pos rfl]
          refine LCgL.ld_own N' (.tail _ (.head _)) hC hx' ?_ hkind (lookup_relabel_local hx) hd
          refine ⟨h', tk', news, rfl, F', N', off, hS, ih (i + 1) _ (by omega) ?_⟩
          rw [List.take_add_one, e2, List.filter_append, show List.filter p (some y).toList = [y] by simp [q]]
          exact kct_snoc hy
        | false =>
          rw [if_neg (by simp)]
          refine ⟨h', tk', news, rfl, F', N', off, hS, ih (i + 1) _ (by omega) ?_⟩
          rw [List.take_add_one, e2, List.filter_append, show List.filter p (some y).toList = [] by simp [q], List.append_nil]
          exact hy
  have := key vs.length 0 [] (by omega) (by simpa using StrsAre.nil)
  rw [List.size_toArray]
  exact this
end

-- part enl
theorem reset_enl : True := by w_top off; trivial
/-! a for over enumerate of a list of the ledger, with a break -/
inductive EnumEnd (h₀ : Heap) (L : Addr) (all : List (Addr × Obj)) (J : (Str → Option Value) → Prop) (s : Shared) (Qb : Shared → Prop) : Flow → Shared → Prop
  | next (m₂ : Str → Option Value) (h' : Heap) (tk' : Nat) : J m₂ → Fr h₀ L h' m₂ → News h₀ L h' all → EnumEnd h₀ L all J s Qb .next { s with heap := h', toks := tk' }
  | brk (s' : Shared) : Qb s' → EnumEnd h₀ L all J s Qb .brk s'
section
variable {prog : Program} {w : World} {A : Around} {E : Value → Shared → Prop} {s : Shared} {env : Env} {h₀ : Heap} {body : List Stmt} {Q : Flow → Shared → Prop} {elts : List Expr} {k : Nat} {pos : Pos}
theorem enum_turns {l : Addr} {vs : List Value} {m₀ : Str → Option Value} {news : List (Addr × Obj)} (J : Nat → (Str → Option Value) → Prop) (hh : A.handled = none) (F : Fr h₀ env.locals s.heap m₀) (N : News h₀ env.locals s.heap news)
    (hm : ∃ o, (l, o) ∈ news ∧ o.cls = .type "list" ∧ ∃ n, o.data = .seq vs.toArray n) (hj : J 0 m₀)
    (turn : ∀ i v m₁ h tk own T t, vs[i]? = some v → J i m₁ → IsTup h T #[.int (i : Nat) t, v] → Fr h₀ env.locals h m₁ → News h₀ env.locals h (news ++ own) →
      wpAny (model prog w) A (assign (.Tuple elts k pos) env (.ref T)) (fun _ s₂ => wpAny (model prog w) A (execs body env) (EnumEnd h₀ env.locals (news ++ own) (J (i + 1)) { s with heap := h, toks := tk } (fun s' => Q .next s')) E s₂) E { s with heap := h, toks := tk })
    (done : ∀ m₁ h tk, J vs.length m₁ → Fr h₀ env.locals h m₁ → News h₀ env.locals h news → Q .next { s with heap := h, toks := tk }) :
    wpAny (model prog w) A (call (.type "enumerate") [.ref l]) (fun xv s₁ => wpAny (model prog w) A (pyIter xv) (fun it s₂ => TurnsAt prog w A h₀ env (.Tuple elts k pos) body Q E it s₂) E s₁) E s := by
  obtain ⟨lo, hml, hc, n, hd⟩ := hm
  have hax := N _ hml
  have hl : s.heap.IsList l vs.toArray := ⟨lo, hax.1, hc, n, hd⟩
  have hlt : @LT.lt Nat _ l s.heap.objs.size := Heap.lt_size hax.1
  have hLs : @LT.lt Nat _ env.locals s.heap.objs.size := F.ns.lt
  have hlL : l ≠ env.locals := hax.2.1
  refine call_enumerate_list hl fun h' hE hI hsz hk => ?_
  refine wpAny_pyIter_enum hE ?_
  have fr : ∀ a, s.heap.objs.size ≤ a → h₀.get? a = none := fun a ha => by
    cases e : h₀.get? a with
    | none => rfl
    | some o' => exact absurd (Heap.lt_size (F.keep a o' e)) (Nat.not_lt.mpr ha)
  have W := (WalksT.enumerate (prog := prog) (w := w) hh (s.heap.objs.size + 1) s.heap.objs.size l (Nat.succ_ne_self _) (Nat.ne_of_lt (Nat.lt_succ_of_lt hlt)) (Nat.ne_of_lt hlt) vs.toArray).toU
  have hlen : vs.toArray.size = vs.length := by simp
  rw [hlen] at W
  unfold TurnsAt
  refine ⟨s.heap.objs.size + 1, [s.heap.objs.size + 1, s.heap.objs.size, l], [s.heap.objs.size + 1, s.heap.objs.size], vs.length, _, _, _, m₀, news, fun i m nw => J i m ∧ nw = news, rfl,
    KTurns.ofWalksU W, ?_, ?_, ?_, ⟨⟨_, hE⟩, hI, hl.at fun o e => hk _ o e⟩, F.keeps hk, N.grown hk, ⟨hj, rfl⟩, ?_, ?_⟩
  · intro hmem
    simp only [List.mem_cons, List.mem_nil_iff, or_false] at hmem
    rcases hmem with e | e | e
    · rw [e] at hLs; exact absurd hLs (by omega)
    · rw [e] at hLs; exact absurd hLs (by omega)
    · exact hlL e.symm
  · intro b hb
    simp only [List.mem_cons, List.mem_nil_iff, or_false] at hb
    rcases hb with rfl | rfl
    · exact fr _ (Nat.le_succ _)
    · exact fr _ (Nat.le_refl _)
  · intro p hp hb
    have : @LT.lt Nat _ p.1 s.heap.objs.size := Heap.lt_size (N p hp).1
    simp only [List.mem_cons, List.mem_nil_iff, or_false] at hb
    rcases hb with e | e <;> rw [e] at this <;> exact absurd this (by omega)
  · rintro i v m₁ news₁ h₁ tk₁ own hi ⟨T, vals, rfl, ⟨t, x, hx, rfl⟩, hT⟩ ⟨hJ, rfl⟩ hav - - - - F₁ N₁
    refine wpAny_mono (turn i x m₁ h₁ tk₁ own T t (by simpa using hx) hJ hT F₁ fun p hp => N₁ p (List.mem_append.mpr (List.mem_append.mp hp).symm)) (fun _ s₂ h₂ => wpAny_mono h₂ (fun f s₃ h₃ => ?_) fun _ _ e => e) fun _ _ e => e
    cases h₃ with
    | next m₂ h' tk' hJ' F' N' => exact ⟨rfl, h', tk', m₂, _, rfl, F', fun p hp => N' p (List.mem_append.mpr (List.mem_append.mp hp).symm), hav, hJ', rfl⟩
    | brk s' hb => exact hb
  · rintro h₁ tk₁ m₁ news₁ F₁ N₁ - ⟨hJ, rfl⟩
    exact done m₁ h₁ tk₁ hJ F₁ N₁
end
/-- what stands behind the loop of commonpath -/
inductive ForMid (h₀ : Heap) (L : Addr) (s : Shared) (cells : List (Addr × Obj)) (b : Bool) (X : List Str) : Flow → Shared → Prop
  | mk (D : Addr) (o : Obj) (V : List Value) (n : Nat) (m' : Str → Option Value) (h' : Heap) (tk' : Nat) : Fr h₀ L h' m' → News h₀ L h' ((D, o) :: cells) → o.cls = .type "list" → o.data = .seq V.toArray n → StrsAre V X →
      m' (Str.ofString "common") = some (.ref D) → m' (Str.ofString "isabs") = some (.bool b) → ForMid h₀ L s cells b X .next { s with heap := h', toks := tk' }
theorem pick_take (vs : List Value) (i : Nat) : kms_pick vs none (some (i : Int)) = vs.take i := by
  unfold kms_pick kms_lo kms_hi
  dsimp only
  rw [if_neg (by omega), Int.toNat_natCast, List.drop_zero, Nat.sub_zero]
  by_cases h : i ≤ vs.length
  · rw [Nat.min_eq_left h]
  · rw [Nat.min_eq_right (by omega), List.take_of_length_le (Nat.le_refl _), List.take_of_length_le (by omega)]
theorem strs_take {vs : List Value} {xs : List Str} (h : StrsAre vs xs) : ∀ i : Nat, StrsAre (vs.take i) (xs.take i) := by
  induction h with
  | nil => intro i; simp only [List.take_nil]; exact .nil
  | cons z u r ih =>
    intro i
    cases i with
    | zero => exact .nil
    | succ i => exact .cons z u (ih i)

-- part minmax
theorem reset_minmax : True := by w_top off; trivial
theorem alike_take : ∀ xs ys : List Str, xs.take (alike xs ys) = ys.take (alike xs ys)
  | [], [] => rfl
  | [], _ :: _ => rfl
  | _ :: _, [] => rfl
  | a :: r, b :: q => by
    unfold alike
    by_cases h : a = b
    · rw [if_pos h, List.take_succ_cons, List.take_succ_cons, alike_take r q, h]
    · rw [if_neg h]; rfl
theorem cps_ne {x y : Str} (h : x ≠ y) : x.cps.toList ≠ y.cps.toList := fun e => h (by cases x; cases y; simp only [Str.mk.injEq]; exact Array.toList_inj.mp e)
theorem minmax : ∀ xs ys : List Str, (if ltL false ys xs = true then ys else xs).take (alike (if ltL false ys xs = true then ys else xs) (if ltL true ys xs = true then ys else xs)) = xs.take (alike xs ys) ∧
    (alike (if ltL false ys xs = true then ys else xs) (if ltL true ys xs = true then ys else xs) < (if ltL false ys xs = true then ys else xs).length →
      alike (if ltL false ys xs = true then ys else xs) (if ltL true ys xs = true then ys else xs) < (if ltL true ys xs = true then ys else xs).length)
  | [], [] => by simp [ltL]
  | [], y :: ys => by simp [ltL, alike]
  | x :: xs, [] => by simp [ltL, alike]
  | x :: xs, y :: ys => by
    by_cases h : x = y
    · subst h
      have ih := minmax xs ys
      rw [show ltL false (x :: ys) (x :: xs) = ltL false ys xs by simp [ltL], show ltL true (x :: ys) (x :: xs) = ltL true ys xs by simp [ltL]]
      have e : ∀ c : Prop, ∀ _ : Decidable c, (if c then x :: ys else x :: xs) = x :: (if c then ys else xs) := fun c _ => by split <;> rfl
      rw [e, e]
      generalize (if ltL false ys xs = true then ys else xs) = A at *
      generalize (if ltL true ys xs = true then ys else xs) = B at *
      rw [show alike (x :: A) (x :: B) = alike A B + 1 by simp [alike], show alike (x :: xs) (x :: ys) = alike xs ys + 1 by simp [alike], List.take_succ_cons, List.take_succ_cons, ih.1]
      refine ⟨rfl, fun h => ?_⟩
      have := ih.2 (by simpa using h)
      simpa using this
    · have hyx : ¬ y = x := fun e => h e.symm
      have a0 : alike (x :: xs) (y :: ys) = 0 := by simp [alike, h]
      have b0 : alike (y :: ys) (x :: xs) = 0 := by simp [alike, hyx]
      rw [show ltL false (y :: ys) (x :: xs) = decide (y.cps.toList < x.cps.toList) by simp [ltL, hyx], show ltL true (y :: ys) (x :: xs) = decide (x.cps.toList < y.cps.toList) by simp [ltL, hyx]]
      by_cases h1 : y.cps.toList < x.cps.toList
      · have h2 : ¬ x.cps.toList < y.cps.toList := fun h2 => List.lt_irrefl _ (List.lt_trans h1 h2)
        simp [h1, h2, a0, b0]
      · have h2 : x.cps.toList < y.cps.toList := by
          refine Classical.byContradiction fun h2 => cps_ne h (List.le_antisymm (List.not_lt.mp h1) (List.not_lt.mp h2))
        simp [h1, h2, a0]
theorem alike_room {X1 X2 : List Str} {i : Nat} (h : ∀ j, j < i → ∃ a, X1[j]? = some a ∧ X2[j]? = some a) (hi : i < X1.length) (h2 : alike X1 X2 < X1.length → alike X1 X2 < X2.length) : i < X2.length := by
  refine Classical.byContradiction fun hn => ?_
  have e := alike_step X1 X2 X2.length (fun j hj => h j (by omega)) fun a _ e2 => by rw [List.getElem?_eq_none (Nat.le_refl _)] at e2; cases e2
  rw [e] at h2
  have := h2 (by omega)
  omega

-- part common
theorem reset_common : True := by w_top off; trivial
theorem maps_fspath {w : World} {A : Around} {s : Shared} {loose : List Str} {mean : ExcName → Option Value} {mg mb : Str → Option Value} {h₀ : Heap} {L : Addr} {m : Str → Option Value} (X : (hd.heap_1 w.params).In h₀) (Tp : Top topProg loose mean mg mb h₀) {x : Str} {t : Tok} (hd : A.depth + 1 < recursionLimit) :
    MapsTo PR w A h₀ L m 108 s (.str x t) (fun v => ∃ t', v = .str x t') := by
  intro A' Q E h tk nw hh hdep F N k
  obtain ⟨hd', dp', fr', gd', un'⟩ := A'
  dsimp only at hh hdep
  subst hh
  exact fspath_ok (s := { s with heap := h, toks := tk }) (dp := dp') F N X Tp (by omega) fun t' h' tk' F' N' => k _ _ _ ⟨t', rfl⟩ F' N'
/-- commonpath of two, as the walk tells it -/
noncomputable def commonS (x y : Str) : Str := (if Txt.startswith x (Str.ofString "/") = true then Str.ofString "/" else Str.ofString "") ++ Str.join (Str.ofString "/") ((sift x).take (alike (sift x) (sift y)))
theorem sift_sub {x : Str} {k : Nat} (h : ∀ a ∈ Txt.split x (Str.ofString "/"), a.length ≤ x.length) (hx : x.length ≤ k) : (sift x).length ≤ k + 1 ∧ ∀ c ∈ sift x, c.length ≤ k := by
  refine ⟨Nat.le_trans (List.length_filter_le _ _) (Nat.le_trans (split_len x) (by omega)), fun c hc => Nat.le_trans (h c (List.mem_filter.mp hc).1) hx⟩
theorem test1 {y : Str} (h1 : ((y.length : Nat) : Int) ≠ 0) (h2 : (y != Str.ofString ".") = true) : true = (decide (y ≠ Str.ofString "") && decide (y ≠ Str.ofString ".")) := by
  have a : y ≠ Str.ofString "" := fun e => h1 (by rw [e]; rfl)
  have b : y ≠ Str.ofString "." := bne_iff_ne.mp h2
  simp [a, b]
theorem test2 {y : Str} (h2 : (y != Str.ofString ".") = false) : false = (decide (y ≠ Str.ofString "") && decide (y ≠ Str.ofString ".")) := by
  have b : y = Str.ofString "." := bne_eq_false_iff_eq.mp h2
  simp [b]
theorem test3 {y : Str} (h1 : ((y.length : Nat) : Int) = 0) : false = (decide (y ≠ Str.ofString "") && decide (y ≠ Str.ofString ".")) := by
  have a : y = Str.ofString "" := len_zero.mp (by omega)
  simp [a]
section
variable {w : World} {dp un : Nat} {fr : Option (List Env)} {gd : Option (List Code)} {s : Shared} {Q E : Value → Shared → Prop} {loose : List Str} {mean : ExcName → Option Value} {mg mb : Str → Option Value} {h₀ : Heap} {L : Addr} {m : Str → Option Value} {news : List (Addr × Obj)}
  (F : Fr h₀ L s.heap m) (N : News h₀ L s.heap news) (X : (hd.heap_1 w.params).In h₀) (Tp : Top topProg loose mean mg mb h₀) {l : Addr} {x y : Str} {t1 t2 : Tok} (hx : x.length ≤ 64) (hy : y.length ≤ 64)
include F N X Tp hx hy
set_option maxHeartbeats 8000000 in
theorem commonpath_ok (hl : s.heap.IsList l #[.str x t1, .str y t2]) (habs : Txt.startswith x (Str.ofString "/") = Txt.startswith y (Str.ofString "/")) (hun : un + 20 < cLine) (hdp : dp + 4 < recursionLimit)
    (ret : RetS h₀ L m news s Q (commonS x y)) : wpAny (model PR w) (Ar dp fr gd un) (call (.ref 186) [.ref l]) Q E s := by
  have N0 : News h₀ L s.heap (news ++ []) := by simpa using N
  have z100 : 100 ≤ sizeLine := by decide
  have zx : x.length + 1 ≤ sizeLine := by omega
  have zy : y.length + 1 ≤ sizeLine := by omega
  clear z100
  k_dflt (refine' enterTC F N0 X Tp (fun _ _ _ h => nomatch h) ?k6 ?k7 ?k8 ?k9 ?kB ?kn ?_ ?c2 ?c3 ?c4; (case k6 => k_is); (case k7 => k_is); (case k8 => (dsimp only; omega)); (case k9 => exact BindsTo.of_eq rfl); (case kB => rfl); (case kn => decide +kernel); (case c2 => exact rfl); (case c3 => exact rfl); (case c4 => exact rfl); k_whole)
  clear F N X Tp N0
  intro L' h₁ tk₁ cells X Tp back _ F' N' Y
  rw [show hideAll s.heap (([] : List (Addr × Obj)).map (·.1)) = s.heap from rfl] at *
  obtain ⟨o1, o2, rfl, d1, d2⟩ := CellsAre.two Y
  clear Y
  replace d1 : o1.data = .cell none := d1
  replace d2 : o2.data = .cell none := d2
  simp only [List.cons_append, List.nil_append] at N'
  change Fr _ _ _ (fun y => if y = Str.ofString "paths" then some (Value.ref l) else none) at F'
  (repeat' (first | (k_unfold; (try dsimp only)) | ((((((fail_if_success (with_reducible show wpAny _ _ (exec (Stmt.While _ _ _ _) _) _ _ _)); (fail_if_success (with_reducible show wpAny _ _ (exec (Stmt.For _ _ _ _ _) _) _ _ _)))); (fail_if_success (with_reducible show InvEndN _ _ _ _ _ _ _)); (fail_if_success (with_reducible show wpAny _ _ (binaryOp Operator.Mult (Value.ref _) _) _ _ _)); (fail_if_success (with_reducible show wpAny _ _ (binaryOp Operator.Add (Value.ref _) _) _ _ _)); (fail_if_success (with_reducible show wpAny _ _ (subscriptTail _ _ (Value.ref _) _) _ _ _)); (fail_if_success (with_reducible show wpAny _ _ (call (Value.builtin "list.pop") _) _ _ _)); (fail_if_success (with_reducible show wpAny _ _ (call (Value.builtin _) [Value.str _ _, Value.ref _]) _ _ _)))); (first | walk1 | (dsimp only; walk1)))))
  refine call_map (items := #[.str x t1, .str y t2]) F' N' hl ?_
  clear F' N'
  intro I T1 M h₂ F' N' off
  (repeat' (first | (k_unfold; (try dsimp only)) | ((((((fail_if_success (with_reducible show wpAny _ _ (exec (Stmt.While _ _ _ _) _) _ _ _)); (fail_if_success (with_reducible show wpAny _ _ (exec (Stmt.For _ _ _ _ _) _) _ _ _)))); (fail_if_success (with_reducible show InvEndN _ _ _ _ _ _ _)); (fail_if_success (with_reducible show wpAny _ _ (binaryOp Operator.Mult (Value.ref _) _) _ _ _)); (fail_if_success (with_reducible show wpAny _ _ (binaryOp Operator.Add (Value.ref _) _) _ _ _)); (fail_if_success (with_reducible show wpAny _ _ (subscriptTail _ _ (Value.ref _) _) _ _ _)); (fail_if_success (with_reducible show wpAny _ _ (call (Value.builtin "list.pop") _) _ _ _)); (fail_if_success (with_reducible show wpAny _ _ (call (Value.builtin _) [Value.str _ _, Value.ref _]) _ _ _)))); (first | walk1 | (dsimp only; walk1)))))
  refine tuple_map_two rfl F' hl N' ⟨rfl, rfl⟩ off (maps_fspath X Tp (by dsimp only [Around.deeper]; omega)) (maps_fspath X Tp (by dsimp only [Around.deeper]; omega)) ?_
  clear F' N' off
  rintro _ _ a h₃ tk₃ ⟨t3, rfl⟩ ⟨t4, rfl⟩ F' N'
  (repeat' (first | (k_unfold; (try dsimp only)) | ((((((fail_if_success (with_reducible show wpAny _ _ (exec (Stmt.While _ _ _ _) _) _ _ _)); (fail_if_success (with_reducible show wpAny _ _ (exec (Stmt.For _ _ _ _ _) _) _ _ _)))); (fail_if_success (with_reducible show InvEndN _ _ _ _ _ _ _)); (fail_if_success (with_reducible show wpAny _ _ (binaryOp Operator.Mult (Value.ref _) _) _ _ _)); (fail_if_success (with_reducible show wpAny _ _ (binaryOp Operator.Add (Value.ref _) _) _ _ _)); (fail_if_success (with_reducible show wpAny _ _ (subscriptTail _ _ (Value.ref _) _) _ _ _)); (fail_if_success (with_reducible show wpAny _ _ (call (Value.builtin "list.pop") _) _ _ _)); (fail_if_success (with_reducible show wpAny _ _ (call (Value.builtin _) [Value.str _ _, Value.ref _]) _ _ _)))); (first | walk1 | (dsimp only; walk1)))))
  rename Fr _ _ _ _ => F'
  rename News _ _ _ _ => N'
  refine item_tupleT (l := [_, _]) ⟨_, (N' _ (.head _)).1, rfl, _, rfl⟩ (by decide) (by decide) (seqIndex_nn (by decide) (by simp)) rfl ?_
  (repeat' (first | (k_unfold; (try dsimp only)) | ((((((((fail_if_success (with_reducible show wpAny _ _ (exec (Stmt.While _ _ _ _) _) _ _ _)); (fail_if_success (with_reducible show wpAny _ _ (exec (Stmt.For _ _ _ _ _) _) _ _ _)))); (fail_if_success (with_reducible show InvEndN _ _ _ _ _ _ _)); (fail_if_success (with_reducible show wpAny _ _ (binaryOp Operator.Mult (Value.ref _) _) _ _ _)); (fail_if_success (with_reducible show wpAny _ _ (binaryOp Operator.Add (Value.ref _) _) _ _ _)); (fail_if_success (with_reducible show wpAny _ _ (subscriptTail _ _ (Value.ref _) _) _ _ _)); (fail_if_success (with_reducible show wpAny _ _ (call (Value.builtin "list.pop") _) _ _ _)); (fail_if_success (with_reducible show wpAny _ _ (call (Value.builtin _) [Value.str _ _, Value.ref _]) _ _ _)))); (fail_if_success (with_reducible show wpAny _ _ (exec (Stmt.Assign _ (Expr.ListComp _ _ _ _) _) _) _ _ _)); (fail_if_success (with_reducible show wpAny _ _ (exec (Stmt.Assign _ (Expr.SetComp _ _ _ _) _) _) _ _ _)); (fail_if_success (with_reducible show wpAny _ _ (exec (Stmt.Try _ _ _ _ _) _) _ _ _)); (fail_if_success (with_reducible show wpAny _ _ (call (Value.builtin _) [Value.ref _]) _ _ _)); (fail_if_success (with_reducible show wpAny _ _ (call (Value.type _) [Value.ref _]) _ _ _)); (fail_if_success (with_reducible show EnumEnd _ _ _ _ _ _ _ _)); (fail_if_success (with_reducible show ForMid _ _ _ _ _ _ _ _)); (fail_if_success (with_reducible show wpAny _ _ (eval (Expr.ListComp _ _ _ _) _) _ _ _)); (fail_if_success (with_reducible show LCt.CompSrcT _ _ _ _ _ _ _ _ _ _ _ _ _ _ _)); (fail_if_success (with_reducible show TestEnd _ _ _ _ _ _ _ _)))); (first | walk1 | (dsimp only; walk1)))))
  refine wpAny_Try_except (wpAny_noRaise ?_)
  (repeat' (first | (k_unfold; (try dsimp only)) | ((((((((fail_if_success (with_reducible show wpAny _ _ (exec (Stmt.While _ _ _ _) _) _ _ _)); (fail_if_success (with_reducible show wpAny _ _ (exec (Stmt.For _ _ _ _ _) _) _ _ _)))); (fail_if_success (with_reducible show InvEndN _ _ _ _ _ _ _)); (fail_if_success (with_reducible show wpAny _ _ (binaryOp Operator.Mult (Value.ref _) _) _ _ _)); (fail_if_success (with_reducible show wpAny _ _ (binaryOp Operator.Add (Value.ref _) _) _ _ _)); (fail_if_success (with_reducible show wpAny _ _ (subscriptTail _ _ (Value.ref _) _) _ _ _)); (fail_if_success (with_reducible show wpAny _ _ (call (Value.builtin "list.pop") _) _ _ _)); (fail_if_success (with_reducible show wpAny _ _ (call (Value.builtin _) [Value.str _ _, Value.ref _]) _ _ _)))); (fail_if_success (with_reducible show wpAny _ _ (exec (Stmt.Assign _ (Expr.ListComp _ _ _ _) _) _) _ _ _)); (fail_if_success (with_reducible show wpAny _ _ (exec (Stmt.Assign _ (Expr.SetComp _ _ _ _) _) _) _ _ _)); (fail_if_success (with_reducible show wpAny _ _ (exec (Stmt.Try _ _ _ _ _) _) _ _ _)); (fail_if_success (with_reducible show wpAny _ _ (call (Value.builtin _) [Value.ref _]) _ _ _)); (fail_if_success (with_reducible show wpAny _ _ (call (Value.type _) [Value.ref _]) _ _ _)); (fail_if_success (with_reducible show EnumEnd _ _ _ _ _ _ _ _)); (fail_if_success (with_reducible show ForMid _ _ _ _ _ _ _ _)); (fail_if_success (with_reducible show wpAny _ _ (eval (Expr.ListComp _ _ _ _) _) _ _ _)); (fail_if_success (with_reducible show LCt.CompSrcT _ _ _ _ _ _ _ _ _ _ _ _ _ _ _)); (fail_if_success (with_reducible show TestEnd _ _ _ _ _ _ _ _)))); (first | walk1 | (dsimp only; walk1)))))
  rename Fr _ _ _ _ => F'
  rename News _ _ _ _ => N2
  obtain ⟨oC, oS, tS, tC, N', dS, dC⟩ : ∃ oC oS tS tC, News s.heap L' _ [(a, { cls := .type "tuple", data := .seq #[.str x t3, .str y t4] }), (L' + 1 + 1, oC), (L' + 1, oS)] ∧ oS.data = .cell (some (.str (Str.ofString "/") tS)) ∧ oC.data = .cell (some (.str (Str.ofString ".") tC)) := ⟨_, _, _, _, N2, by assumption, by assumption⟩
  clear N2
  refine Assign_ListComp_tup (ax := a) (its := #[.str x t3, .str y t4]) rfl rfl (by rfl) (by rfl) (by decide) rfl (by decide) rfl rfl rfl ?hit F' N' (.inr ⟨_, .head _, rfl, _, rfl⟩) (by show 2 ≤ sizeLine; decide) ?R
  case hit => (repeat' (first | (k_unfold; (try dsimp only)) | ((((((((fail_if_success (with_reducible show wpAny _ _ (exec (Stmt.While _ _ _ _) _) _ _ _)); (fail_if_success (with_reducible show wpAny _ _ (exec (Stmt.For _ _ _ _ _) _) _ _ _)))); (fail_if_success (with_reducible show InvEndN _ _ _ _ _ _ _)); (fail_if_success (with_reducible show wpAny _ _ (binaryOp Operator.Mult (Value.ref _) _) _ _ _)); (fail_if_success (with_reducible show wpAny _ _ (binaryOp Operator.Add (Value.ref _) _) _ _ _)); (fail_if_success (with_reducible show wpAny _ _ (subscriptTail _ _ (Value.ref _) _) _ _ _)); (fail_if_success (with_reducible show wpAny _ _ (call (Value.builtin "list.pop") _) _ _ _)); (fail_if_success (with_reducible show wpAny _ _ (call (Value.builtin _) [Value.str _ _, Value.ref _]) _ _ _)))); (fail_if_success (with_reducible show wpAny _ _ (exec (Stmt.Assign _ (Expr.ListComp _ _ _ _) _) _) _ _ _)); (fail_if_success (with_reducible show wpAny _ _ (exec (Stmt.Assign _ (Expr.SetComp _ _ _ _) _) _) _ _ _)); (fail_if_success (with_reducible show wpAny _ _ (exec (Stmt.Try _ _ _ _ _) _) _ _ _)); (fail_if_success (with_reducible show wpAny _ _ (call (Value.builtin _) [Value.ref _]) _ _ _)); (fail_if_success (with_reducible show wpAny _ _ (call (Value.type _) [Value.ref _]) _ _ _)); (fail_if_success (with_reducible show EnumEnd _ _ _ _ _ _ _ _)); (fail_if_success (with_reducible show ForMid _ _ _ _ _ _ _ _)); (fail_if_success (with_reducible show wpAny _ _ (eval (Expr.ListComp _ _ _ _) _) _ _ _)); (fail_if_success (with_reducible show LCt.CompSrcT _ _ _ _ _ _ _ _ _ _ _ _ _ _ _)); (fail_if_success (with_reducible show TestEnd _ _ _ _ _ _ _ _)))); (first | walk1 | (dsimp only; walk1)))))
  case R =>
    clear F' N'
    intro h₄
    refine LCg.CompRest.succ ?_
    intro v' I' oI' C' oC' D' m' h' tk' E' hv' hC' hx' F' N' off' ne'
    obtain rfl : Value.str x t3 = v' := Option.some.inj hv'
    simp only [LCg.Off3, and_true] at off'
    have q1 := Heap.lt_size (N' _ (.head _)).1
    have q2 := Heap.lt_size (N' _ (.tail _ (.head _))).1
    have q3 := Heap.lt_size (N' _ (.tail _ (.tail _ (.head _)))).1
    (repeat' (first | (k_unfold; (try dsimp only)) | ((((((((fail_if_success (with_reducible show wpAny _ _ (exec (Stmt.While _ _ _ _) _) _ _ _)); (fail_if_success (with_reducible show wpAny _ _ (exec (Stmt.For _ _ _ _ _) _) _ _ _)))); (fail_if_success (with_reducible show InvEndN _ _ _ _ _ _ _)); (fail_if_success (with_reducible show wpAny _ _ (binaryOp Operator.Mult (Value.ref _) _) _ _ _)); (fail_if_success (with_reducible show wpAny _ _ (binaryOp Operator.Add (Value.ref _) _) _ _ _)); (fail_if_success (with_reducible show wpAny _ _ (subscriptTail _ _ (Value.ref _) _) _ _ _)); (fail_if_success (with_reducible show wpAny _ _ (call (Value.builtin "list.pop") _) _ _ _)); (fail_if_success (with_reducible show wpAny _ _ (call (Value.builtin _) [Value.str _ _, Value.ref _]) _ _ _)))); (fail_if_success (with_reducible show wpAny _ _ (exec (Stmt.Assign _ (Expr.ListComp _ _ _ _) _) _) _ _ _)); (fail_if_success (with_reducible show wpAny _ _ (exec (Stmt.Assign _ (Expr.SetComp _ _ _ _) _) _) _ _ _)); (fail_if_success (with_reducible show wpAny _ _ (exec (Stmt.Try _ _ _ _ _) _) _ _ _)); (fail_if_success (with_reducible show wpAny _ _ (call (Value.builtin _) [Value.ref _]) _ _ _)); (fail_if_success (with_reducible show wpAny _ _ (call (Value.type _) [Value.ref _]) _ _ _)); (fail_if_success (with_reducible show EnumEnd _ _ _ _ _ _ _ _)); (fail_if_success (with_reducible show ForMid _ _ _ _ _ _ _ _)); (fail_if_success (with_reducible show wpAny _ _ (eval (Expr.ListComp _ _ _ _) _) _ _ _)); (fail_if_success (with_reducible show LCt.CompSrcT _ _ _ _ _ _ _ _ _ _ _ _ _ _ _)); (fail_if_success (with_reducible show TestEnd _ _ _ _ _ _ _ _)))); (first | walk1 | (dsimp only; walk1)))))
    rename Fr _ _ _ _ => F'
    rename News _ _ _ _ => N'
    rename StrsAre _ _ => hs1
    refine LCg.CompEnd.intro F' N' [_, (a, _), (L' + 1 + 1, oC), (L' + 1, oS)] (by lcg_sub) ⟨⟨Nat.ne_of_gt q1, Nat.ne_of_gt q2, Nat.ne_of_gt q3⟩, off'.1, off'.2.1, off'.2.2, trivial⟩ (.inr ⟨_, .tail _ (.head _), rfl, _, rfl⟩) ?_
    rename List.map _ _ = Txt.split _ _ => e1
    rename (∀ _ ∈ List.map _ _, _) => b1
    rw [e1] at hs1 b1
    generalize strValues _ = vs1 at *
    refine LCg.CompRest.succ ?_
    clear F' N' off' q1 q2 q3 ne' hC' hx' hv'
    intro v' I' oI' C' oC' D' m' h' tk' E' hv' hC' hx' F' N' off' ne'
    obtain rfl : Value.str y t4 = v' := Option.some.inj hv'
    simp only [LCg.Off3, and_true] at off'
    have q1 := Heap.lt_size (N' _ (.head _)).1
    have q2 := Heap.lt_size (N' _ (.tail _ (.head _))).1
    have q3 := Heap.lt_size (N' _ (.tail _ (.tail _ (.head _)))).1
    (repeat' (first | (k_unfold; (try dsimp only)) | ((((((((fail_if_success (with_reducible show wpAny _ _ (exec (Stmt.While _ _ _ _) _) _ _ _)); (fail_if_success (with_reducible show wpAny _ _ (exec (Stmt.For _ _ _ _ _) _) _ _ _)))); (fail_if_success (with_reducible show InvEndN _ _ _ _ _ _ _)); (fail_if_success (with_reducible show wpAny _ _ (binaryOp Operator.Mult (Value.ref _) _) _ _ _)); (fail_if_success (with_reducible show wpAny _ _ (binaryOp Operator.Add (Value.ref _) _) _ _ _)); (fail_if_success (with_reducible show wpAny _ _ (subscriptTail _ _ (Value.ref _) _) _ _ _)); (fail_if_success (with_reducible show wpAny _ _ (call (Value.builtin "list.pop") _) _ _ _)); (fail_if_success (with_reducible show wpAny _ _ (call (Value.builtin _) [Value.str _ _, Value.ref _]) _ _ _)))); (fail_if_success (with_reducible show wpAny _ _ (exec (Stmt.Assign _ (Expr.ListComp _ _ _ _) _) _) _ _ _)); (fail_if_success (with_reducible show wpAny _ _ (exec (Stmt.Assign _ (Expr.SetComp _ _ _ _) _) _) _ _ _)); (fail_if_success (with_reducible show wpAny _ _ (exec (Stmt.Try _ _ _ _ _) _) _ _ _)); (fail_if_success (with_reducible show wpAny _ _ (call (Value.builtin _) [Value.ref _]) _ _ _)); (fail_if_success (with_reducible show wpAny _ _ (call (Value.type _) [Value.ref _]) _ _ _)); (fail_if_success (with_reducible show EnumEnd _ _ _ _ _ _ _ _)); (fail_if_success (with_reducible show ForMid _ _ _ _ _ _ _ _)); (fail_if_success (with_reducible show wpAny _ _ (eval (Expr.ListComp _ _ _ _) _) _ _ _)); (fail_if_success (with_reducible show LCt.CompSrcT _ _ _ _ _ _ _ _ _ _ _ _ _ _ _)); (fail_if_success (with_reducible show TestEnd _ _ _ _ _ _ _ _)))); (first | walk1 | (dsimp only; walk1)))))
    rename Fr _ _ _ _ => F'
    rename News _ _ _ _ => N'
    rename StrsAre _ _ => hs2
    refine LCg.CompEnd.intro F' N' [_, (_, _), (a, _), (L' + 1 + 1, oC), (L' + 1, oS)] (by lcg_sub) ⟨⟨Nat.ne_of_gt q1, Nat.ne_of_gt q2, Nat.ne_of_gt q3⟩, off'.1, off'.2.1, off'.2.2.1, off'.2.2.2, trivial⟩ (.inr ⟨_, .tail _ (.tail _ (.head _)), rfl, _, rfl⟩) ?_
    rename List.map _ _ = Txt.split _ _ => e2
    rename (∀ _ ∈ List.map _ _, _) => b2
    rw [e2] at hs2 b2
    generalize strValues _ = vs2 at *
    refine LCg.CompRest.zero ?_
    unfold LCg.FinA
    clear F' N' off' q1 q2 q3 ne' hC' hx' hv'
    intro D1 h5 tk5 F' N' o1
    (repeat' (first | (k_unfold; (try dsimp only)) | ((((((((fail_if_success (with_reducible show wpAny _ _ (exec (Stmt.While _ _ _ _) _) _ _ _)); (fail_if_success (with_reducible show wpAny _ _ (exec (Stmt.For _ _ _ _ _) _) _ _ _)))); (fail_if_success (with_reducible show InvEndN _ _ _ _ _ _ _)); (fail_if_success (with_reducible show wpAny _ _ (binaryOp Operator.Mult (Value.ref _) _) _ _ _)); (fail_if_success (with_reducible show wpAny _ _ (binaryOp Operator.Add (Value.ref _) _) _ _ _)); (fail_if_success (with_reducible show wpAny _ _ (subscriptTail _ _ (Value.ref _) _) _ _ _)); (fail_if_success (with_reducible show wpAny _ _ (call (Value.builtin "list.pop") _) _ _ _)); (fail_if_success (with_reducible show wpAny _ _ (call (Value.builtin _) [Value.str _ _, Value.ref _]) _ _ _)))); (fail_if_success (with_reducible show wpAny _ _ (exec (Stmt.Assign _ (Expr.ListComp _ _ _ _) _) _) _ _ _)); (fail_if_success (with_reducible show wpAny _ _ (exec (Stmt.Assign _ (Expr.SetComp _ _ _ _) _) _) _ _ _)); (fail_if_success (with_reducible show wpAny _ _ (exec (Stmt.Try _ _ _ _ _) _) _ _ _)); (fail_if_success (with_reducible show wpAny _ _ (call (Value.builtin _) [Value.ref _]) _ _ _)); (fail_if_success (with_reducible show wpAny _ _ (call (Value.type _) [Value.ref _]) _ _ _)); (fail_if_success (with_reducible show EnumEnd _ _ _ _ _ _ _ _)); (fail_if_success (with_reducible show ForMid _ _ _ _ _ _ _ _)); (fail_if_success (with_reducible show wpAny _ _ (eval (Expr.ListComp _ _ _ _) _) _ _ _)); (fail_if_success (with_reducible show LCt.CompSrcT _ _ _ _ _ _ _ _ _ _ _ _ _ _ _)); (fail_if_success (with_reducible show TestEnd _ _ _ _ _ _ _ _)))); (first | walk1 | (dsimp only; walk1)))))
    rename Fr _ _ _ _ => F'
    rename News _ _ _ _ => N2
    obtain ⟨a1, a2, N'⟩ : ∃ a1 a2, News s.heap L' _ [(D1, LCg.lst [.ref a1, .ref a2]), (a2, { cls := .type "list", data := .seq vs2.toArray }), (a1, { cls := .type "list", data := .seq vs1.toArray }), (a, { cls := .type "tuple", data := .seq #[.str x t3, .str y t4] }), (L' + 1 + 1, oC), (L' + 1, oS)] := ⟨_, _, N2⟩
    clear N2
    refine wpAny_Try_except (wpAny_noRaise ?_)
    (repeat' (first | (k_unfold; (try dsimp only)) | ((((((((fail_if_success (with_reducible show wpAny _ _ (exec (Stmt.While _ _ _ _) _) _ _ _)); (fail_if_success (with_reducible show wpAny _ _ (exec (Stmt.For _ _ _ _ _) _) _ _ _)))); (fail_if_success (with_reducible show InvEndN _ _ _ _ _ _ _)); (fail_if_success (with_reducible show wpAny _ _ (binaryOp Operator.Mult (Value.ref _) _) _ _ _)); (fail_if_success (with_reducible show wpAny _ _ (binaryOp Operator.Add (Value.ref _) _) _ _ _)); (fail_if_success (with_reducible show wpAny _ _ (subscriptTail _ _ (Value.ref _) _) _ _ _)); (fail_if_success (with_reducible show wpAny _ _ (call (Value.builtin "list.pop") _) _ _ _)); (fail_if_success (with_reducible show wpAny _ _ (call (Value.builtin _) [Value.str _ _, Value.ref _]) _ _ _)))); (fail_if_success (with_reducible show wpAny _ _ (exec (Stmt.Assign _ (Expr.ListComp _ _ _ _) _) _) _ _ _)); (fail_if_success (with_reducible show wpAny _ _ (exec (Stmt.Assign _ (Expr.SetComp _ _ _ _) _) _) _ _ _)); (fail_if_success (with_reducible show wpAny _ _ (exec (Stmt.Try _ _ _ _ _) _) _ _ _)); (fail_if_success (with_reducible show wpAny _ _ (call (Value.builtin _) [Value.ref _]) _ _ _)); (fail_if_success (with_reducible show wpAny _ _ (call (Value.type _) [Value.ref _]) _ _ _)); (fail_if_success (with_reducible show EnumEnd _ _ _ _ _ _ _ _)); (fail_if_success (with_reducible show ForMid _ _ _ _ _ _ _ _)); (fail_if_success (with_reducible show wpAny _ _ (eval (Expr.ListComp _ _ _ _) _) _ _ _)); (fail_if_success (with_reducible show LCt.CompSrcT _ _ _ _ _ _ _ _ _ _ _ _ _ _ _)); (fail_if_success (with_reducible show TestEnd _ _ _ _ _ _ _ _)))); (first | walk1 | (dsimp only; walk1)))))
    rename Fr _ _ _ _ => F'
    rename News _ _ _ _ => N'
    change Fr s.heap L' _ _ at F'
    refine Assign_Tuple (SetComp_two (b := Txt.startswith x (Str.ofString "/")) (.str x t3) (.str y t4) F' rfl (by rfl) (by decide) rfl (by decide) rfl ?_)
    (repeat' (first | (k_unfold; (try dsimp only)) | ((((((((fail_if_success (with_reducible show wpAny _ _ (exec (Stmt.While _ _ _ _) _) _ _ _)); (fail_if_success (with_reducible show wpAny _ _ (exec (Stmt.For _ _ _ _ _) _) _ _ _)))); (fail_if_success (with_reducible show InvEndN _ _ _ _ _ _ _)); (fail_if_success (with_reducible show wpAny _ _ (binaryOp Operator.Mult (Value.ref _) _) _ _ _)); (fail_if_success (with_reducible show wpAny _ _ (binaryOp Operator.Add (Value.ref _) _) _ _ _)); (fail_if_success (with_reducible show wpAny _ _ (subscriptTail _ _ (Value.ref _) _) _ _ _)); (fail_if_success (with_reducible show wpAny _ _ (call (Value.builtin "list.pop") _) _ _ _)); (fail_if_success (with_reducible show wpAny _ _ (call (Value.builtin _) [Value.str _ _, Value.ref _]) _ _ _)))); (fail_if_success (with_reducible show wpAny _ _ (exec (Stmt.Assign _ (Expr.ListComp _ _ _ _) _) _) _ _ _)); (fail_if_success (with_reducible show wpAny _ _ (exec (Stmt.Assign _ (Expr.SetComp _ _ _ _) _) _) _ _ _)); (fail_if_success (with_reducible show wpAny _ _ (exec (Stmt.Try _ _ _ _ _) _) _ _ _)); (fail_if_success (with_reducible show wpAny _ _ (call (Value.builtin _) [Value.ref _]) _ _ _)); (fail_if_success (with_reducible show wpAny _ _ (call (Value.type _) [Value.ref _]) _ _ _)); (fail_if_success (with_reducible show EnumEnd _ _ _ _ _ _ _ _)); (fail_if_success (with_reducible show ForMid _ _ _ _ _ _ _ _)); (fail_if_success (with_reducible show wpAny _ _ (eval (Expr.ListComp _ _ _ _) _) _ _ _)); (fail_if_success (with_reducible show LCt.CompSrcT _ _ _ _ _ _ _ _ _ _ _ _ _ _ _)); (fail_if_success (with_reducible show TestEnd _ _ _ _ _ _ _ _)))); (first | walk1 | (dsimp only; walk1)))))
    unfold SetSrc
    refine ⟨a, _, rfl, F', N', .inr ⟨_, .tail _ (.tail _ (.tail _ (.head _))), rfl, _, rfl⟩, ?turn, ?fin⟩
    case turn =>
      clear F' N'
      intro v hv I' C' D' oI oC' oD m₂ h tk E' hC hx' F' N' off
      obtain ⟨z, t, rfl, hz⟩ : ∃ z t, v = .str z t ∧ Txt.startswith z (Str.ofString "/") = Txt.startswith x (Str.ofString "/") := by
        rcases hv with rfl | rfl
        · exact ⟨_, _, rfl, rfl⟩
        · exact ⟨_, _, rfl, habs.symm⟩
      (repeat' (first | (k_unfold; (try dsimp only)) | ((((((((fail_if_success (with_reducible show wpAny _ _ (exec (Stmt.While _ _ _ _) _) _ _ _)); (fail_if_success (with_reducible show wpAny _ _ (exec (Stmt.For _ _ _ _ _) _) _ _ _)))); (fail_if_success (with_reducible show InvEndN _ _ _ _ _ _ _)); (fail_if_success (with_reducible show wpAny _ _ (binaryOp Operator.Mult (Value.ref _) _) _ _ _)); (fail_if_success (with_reducible show wpAny _ _ (binaryOp Operator.Add (Value.ref _) _) _ _ _)); (fail_if_success (with_reducible show wpAny _ _ (subscriptTail _ _ (Value.ref _) _) _ _ _)); (fail_if_success (with_reducible show wpAny _ _ (call (Value.builtin "list.pop") _) _ _ _)); (fail_if_success (with_reducible show wpAny _ _ (call (Value.builtin _) [Value.str _ _, Value.ref _]) _ _ _)))); (fail_if_success (with_reducible show wpAny _ _ (exec (Stmt.Assign _ (Expr.ListComp _ _ _ _) _) _) _ _ _)); (fail_if_success (with_reducible show wpAny _ _ (exec (Stmt.Assign _ (Expr.SetComp _ _ _ _) _) _) _ _ _)); (fail_if_success (with_reducible show wpAny _ _ (exec (Stmt.Try _ _ _ _ _) _) _ _ _)); (fail_if_success (with_reducible show wpAny _ _ (call (Value.builtin _) [Value.ref _]) _ _ _)); (fail_if_success (with_reducible show wpAny _ _ (call (Value.type _) [Value.ref _]) _ _ _)); (fail_if_success (with_reducible show EnumEnd _ _ _ _ _ _ _ _)); (fail_if_success (with_reducible show ForMid _ _ _ _ _ _ _ _)); (fail_if_success (with_reducible show wpAny _ _ (eval (Expr.ListComp _ _ _ _) _) _ _ _)); (fail_if_success (with_reducible show LCt.CompSrcT _ _ _ _ _ _ _ _ _ _ _ _ _ _ _)); (fail_if_success (with_reducible show TestEnd _ _ _ _ _ _ _ _)))); (first | walk1 | (dsimp only; walk1)))))
      exact LCg.CompEnd.intro F' N' _ (fun p hp => hp) off rfl (by rw [hz])
    case fin =>
      clear F' N'
      intro D2 h tk F' N'
      refine unpack_set F' N' (.head _) rfl rfl rfl ?_
      clear F' N'
      intro h' F' N'
      (repeat' (first | (k_unfold; (try dsimp only)) | ((((((((fail_if_success (with_reducible show wpAny _ _ (exec (Stmt.While _ _ _ _) _) _ _ _)); (fail_if_success (with_reducible show wpAny _ _ (exec (Stmt.For _ _ _ _ _) _) _ _ _)))); (fail_if_success (with_reducible show InvEndN _ _ _ _ _ _ _)); (fail_if_success (with_reducible show wpAny _ _ (binaryOp Operator.Mult (Value.ref _) _) _ _ _)); (fail_if_success (with_reducible show wpAny _ _ (binaryOp Operator.Add (Value.ref _) _) _ _ _)); (fail_if_success (with_reducible show wpAny _ _ (subscriptTail _ _ (Value.ref _) _) _ _ _)); (fail_if_success (with_reducible show wpAny _ _ (call (Value.builtin "list.pop") _) _ _ _)); (fail_if_success (with_reducible show wpAny _ _ (call (Value.builtin _) [Value.str _ _, Value.ref _]) _ _ _)))); (fail_if_success (with_reducible show wpAny _ _ (exec (Stmt.Assign _ (Expr.ListComp _ _ _ _) _) _) _ _ _)); (fail_if_success (with_reducible show wpAny _ _ (exec (Stmt.Assign _ (Expr.SetComp _ _ _ _) _) _) _ _ _)); (fail_if_success (with_reducible show wpAny _ _ (exec (Stmt.Try _ _ _ _ _) _) _ _ _)); (fail_if_success (with_reducible show wpAny _ _ (call (Value.builtin _) [Value.ref _]) _ _ _)); (fail_if_success (with_reducible show wpAny _ _ (call (Value.type _) [Value.ref _]) _ _ _)); (fail_if_success (with_reducible show EnumEnd _ _ _ _ _ _ _ _)); (fail_if_success (with_reducible show ForMid _ _ _ _ _ _ _ _)); (fail_if_success (with_reducible show wpAny _ _ (eval (Expr.ListComp _ _ _ _) _) _ _ _)); (fail_if_success (with_reducible show LCt.CompSrcT _ _ _ _ _ _ _ _ _ _ _ _ _ _ _)); (fail_if_success (with_reducible show TestEnd _ _ _ _ _ _ _ _)))); (first | walk1 | (dsimp only; walk1)))))
      rename Fr _ _ _ _ => F'
      rename News _ _ _ _ => N2
      have N' : News s.heap L' _ [(D1, LCg.lst [Value.ref a1, Value.ref a2]), (a2, { cls := .type "list", data := .seq vs2.toArray }), (a1, { cls := .type "list", data := .seq vs1.toArray }), (a, { cls := .type "tuple", data := .seq #[.str x t3, .str y t4] }), (L' + 1 + 1, oC), (L' + 1, oS)] := fun p hp => N2 p (.tail _ hp)
      clear N2
      refine LCg.Assign_ListComp_U F' rfl (by rfl) (by rfl) (by decide) rfl (by decide) rfl rfl rfl ?_
      (repeat' (first | (k_unfold; (try dsimp only)) | ((((((((((fail_if_success (with_reducible show wpAny _ _ (exec (Stmt.While _ _ _ _) _) _ _ _)); (fail_if_success (with_reducible show wpAny _ _ (exec (Stmt.For _ _ _ _ _) _) _ _ _)))); (fail_if_success (with_reducible show InvEndN _ _ _ _ _ _ _)); (fail_if_success (with_reducible show wpAny _ _ (binaryOp Operator.Mult (Value.ref _) _) _ _ _)); (fail_if_success (with_reducible show wpAny _ _ (binaryOp Operator.Add (Value.ref _) _) _ _ _)); (fail_if_success (with_reducible show wpAny _ _ (subscriptTail _ _ (Value.ref _) _) _ _ _)); (fail_if_success (with_reducible show wpAny _ _ (call (Value.builtin "list.pop") _) _ _ _)); (fail_if_success (with_reducible show wpAny _ _ (call (Value.builtin _) [Value.str _ _, Value.ref _]) _ _ _)))); (fail_if_success (with_reducible show wpAny _ _ (exec (Stmt.Assign _ (Expr.ListComp _ _ _ _) _) _) _ _ _)); (fail_if_success (with_reducible show wpAny _ _ (exec (Stmt.Assign _ (Expr.SetComp _ _ _ _) _) _) _ _ _)); (fail_if_success (with_reducible show wpAny _ _ (exec (Stmt.Try _ _ _ _ _) _) _ _ _)); (fail_if_success (with_reducible show wpAny _ _ (call (Value.builtin _) [Value.ref _]) _ _ _)); (fail_if_success (with_reducible show wpAny _ _ (call (Value.type _) [Value.ref _]) _ _ _)); (fail_if_success (with_reducible show EnumEnd _ _ _ _ _ _ _ _)); (fail_if_success (with_reducible show ForMid _ _ _ _ _ _ _ _)); (fail_if_success (with_reducible show wpAny _ _ (eval (Expr.ListComp _ _ _ _) _) _ _ _)); (fail_if_success (with_reducible show LCt.CompSrcT _ _ _ _ _ _ _ _ _ _ _ _ _ _ _)); (fail_if_success (with_reducible show TestEnd _ _ _ _ _ _ _ _)))); (fail_if_success (with_reducible show LCg.CompRest _ _ _ _ _ _ _ _ _ _ _ _ _ _ _ _ _ _ _)); (fail_if_success (with_reducible show LCg.CompEnd _ _ _ _ _ _ _ _ _ _ _ _ _ _)))); (first | walk1 | (dsimp only; walk1)))))
      clear F' N'
      refine LCg.CompRest.succ ?_
      intro v' I' oI' C' oC' D' m' h' tk' E' hv' hC' hx' F' N' off' ne'
      obtain rfl : Value.ref a1 = v' := Option.some.inj hv'
      (repeat' (first | (k_unfold; (try dsimp only)) | ((((((((((fail_if_success (with_reducible show wpAny _ _ (exec (Stmt.While _ _ _ _) _) _ _ _)); (fail_if_success (with_reducible show wpAny _ _ (exec (Stmt.For _ _ _ _ _) _) _ _ _)))); (fail_if_success (with_reducible show InvEndN _ _ _ _ _ _ _)); (fail_if_success (with_reducible show wpAny _ _ (binaryOp Operator.Mult (Value.ref _) _) _ _ _)); (fail_if_success (with_reducible show wpAny _ _ (binaryOp Operator.Add (Value.ref _) _) _ _ _)); (fail_if_success (with_reducible show wpAny _ _ (subscriptTail _ _ (Value.ref _) _) _ _ _)); (fail_if_success (with_reducible show wpAny _ _ (call (Value.builtin "list.pop") _) _ _ _)); (fail_if_success (with_reducible show wpAny _ _ (call (Value.builtin _) [Value.str _ _, Value.ref _]) _ _ _)))); (fail_if_success (with_reducible show wpAny _ _ (exec (Stmt.Assign _ (Expr.ListComp _ _ _ _) _) _) _ _ _)); (fail_if_success (with_reducible show wpAny _ _ (exec (Stmt.Assign _ (Expr.SetComp _ _ _ _) _) _) _ _ _)); (fail_if_success (with_reducible show wpAny _ _ (exec (Stmt.Try _ _ _ _ _) _) _ _ _)); (fail_if_success (with_reducible show wpAny _ _ (call (Value.builtin _) [Value.ref _]) _ _ _)); (fail_if_success (with_reducible show wpAny _ _ (call (Value.type _) [Value.ref _]) _ _ _)); (fail_if_success (with_reducible show EnumEnd _ _ _ _ _ _ _ _)); (fail_if_success (with_reducible show ForMid _ _ _ _ _ _ _ _)); (fail_if_success (with_reducible show wpAny _ _ (eval (Expr.ListComp _ _ _ _) _) _ _ _)); (fail_if_success (with_reducible show LCt.CompSrcT _ _ _ _ _ _ _ _ _ _ _ _ _ _ _)); (fail_if_success (with_reducible show TestEnd _ _ _ _ _ _ _ _)))); (fail_if_success (with_reducible show LCg.CompRest _ _ _ _ _ _ _ _ _ _ _ _ _ _ _ _ _ _ _)); (fail_if_success (with_reducible show LCg.CompEnd _ _ _ _ _ _ _ _ _ _ _ _ _ _)))); (first | walk1 | (dsimp only; walk1)))))
      refine LCt.ListComp_T (F₀ := F') (by rfl) (by decide) rfl (by decide) rfl ?_
      (repeat' (first | (k_unfold; (try dsimp only)) | ((((((((((fail_if_success (with_reducible show wpAny _ _ (exec (Stmt.While _ _ _ _) _) _ _ _)); (fail_if_success (with_reducible show wpAny _ _ (exec (Stmt.For _ _ _ _ _) _) _ _ _)))); (fail_if_success (with_reducible show InvEndN _ _ _ _ _ _ _)); (fail_if_success (with_reducible show wpAny _ _ (binaryOp Operator.Mult (Value.ref _) _) _ _ _)); (fail_if_success (with_reducible show wpAny _ _ (binaryOp Operator.Add (Value.ref _) _) _ _ _)); (fail_if_success (with_reducible show wpAny _ _ (subscriptTail _ _ (Value.ref _) _) _ _ _)); (fail_if_success (with_reducible show wpAny _ _ (call (Value.builtin "list.pop") _) _ _ _)); (fail_if_success (with_reducible show wpAny _ _ (call (Value.builtin _) [Value.str _ _, Value.ref _]) _ _ _)))); (fail_if_success (with_reducible show wpAny _ _ (exec (Stmt.Assign _ (Expr.ListComp _ _ _ _) _) _) _ _ _)); (fail_if_success (with_reducible show wpAny _ _ (exec (Stmt.Assign _ (Expr.SetComp _ _ _ _) _) _) _ _ _)); (fail_if_success (with_reducible show wpAny _ _ (exec (Stmt.Try _ _ _ _ _) _) _ _ _)); (fail_if_success (with_reducible show wpAny _ _ (call (Value.builtin _) [Value.ref _]) _ _ _)); (fail_if_success (with_reducible show wpAny _ _ (call (Value.type _) [Value.ref _]) _ _ _)); (fail_if_success (with_reducible show EnumEnd _ _ _ _ _ _ _ _)); (fail_if_success (with_reducible show ForMid _ _ _ _ _ _ _ _)); (fail_if_success (with_reducible show wpAny _ _ (eval (Expr.ListComp _ _ _ _) _) _ _ _)); (fail_if_success (with_reducible show LCt.CompSrcT _ _ _ _ _ _ _ _ _ _ _ _ _ _ _)); (fail_if_success (with_reducible show TestEnd _ _ _ _ _ _ _ _)))); (fail_if_success (with_reducible show LCg.CompRest _ _ _ _ _ _ _ _ _ _ _ _ _ _ _ _ _ _ _)); (fail_if_success (with_reducible show LCg.CompEnd _ _ _ _ _ _ _ _ _ _ _ _ _ _)))); (first | walk1 | (dsimp only; walk1)))))
      refine LCt.CompSrcT.ledger rfl F' N' (k := 0) (by k_mem) (by rw [List.size_toArray, hs1.length]; exact Nat.le_trans (split_len x) zx) (fun g => ?_)
      refine rest_texts (fun c => decide (c ≠ Str.ofString "") && decide (c ≠ Str.ofString ".")) hs1 (.inr ⟨_, by k_mem, rfl, _, rfl⟩) rfl rfl (by decide) ?_ ?_
      · intro y₁ u₁ I oI C oC₁ D m₂ ys h tk E' hy₁ hC hx₁ F N off
        have hle : y₁.length ≤ 64 := Nat.le_trans (b1 _ hy₁) (by assumption)
        (repeat' (first | (k_unfold; (try dsimp only)) | ((((((((((fail_if_success (with_reducible show wpAny _ _ (exec (Stmt.While _ _ _ _) _) _ _ _)); (fail_if_success (with_reducible show wpAny _ _ (exec (Stmt.For _ _ _ _ _) _) _ _ _)))); (fail_if_success (with_reducible show InvEndN _ _ _ _ _ _ _)); (fail_if_success (with_reducible show wpAny _ _ (binaryOp Operator.Mult (Value.ref _) _) _ _ _)); (fail_if_success (with_reducible show wpAny _ _ (binaryOp Operator.Add (Value.ref _) _) _ _ _)); (fail_if_success (with_reducible show wpAny _ _ (subscriptTail _ _ (Value.ref _) _) _ _ _)); (fail_if_success (with_reducible show wpAny _ _ (call (Value.builtin "list.pop") _) _ _ _)); (fail_if_success (with_reducible show wpAny _ _ (call (Value.builtin _) [Value.str _ _, Value.ref _]) _ _ _)))); (fail_if_success (with_reducible show wpAny _ _ (exec (Stmt.Assign _ (Expr.ListComp _ _ _ _) _) _) _ _ _)); (fail_if_success (with_reducible show wpAny _ _ (exec (Stmt.Assign _ (Expr.SetComp _ _ _ _) _) _) _ _ _)); (fail_if_success (with_reducible show wpAny _ _ (exec (Stmt.Try _ _ _ _ _) _) _ _ _)); (fail_if_success (with_reducible show wpAny _ _ (call (Value.builtin _) [Value.ref _]) _ _ _)); (fail_if_success (with_reducible show wpAny _ _ (call (Value.type _) [Value.ref _]) _ _ _)); (fail_if_success (with_reducible show EnumEnd _ _ _ _ _ _ _ _)); (fail_if_success (with_reducible show ForMid _ _ _ _ _ _ _ _)); (fail_if_success (with_reducible show wpAny _ _ (eval (Expr.ListComp _ _ _ _) _) _ _ _)); (fail_if_success (with_reducible show LCt.CompSrcT _ _ _ _ _ _ _ _ _ _ _ _ _ _ _)); (fail_if_success (with_reducible show TestEnd _ _ _ _ _ _ _ _)))); (fail_if_success (with_reducible show LCg.CompRest _ _ _ _ _ _ _ _ _ _ _ _ _ _ _ _ _ _ _)); (fail_if_success (with_reducible show LCg.CompEnd _ _ _ _ _ _ _ _ _ _ _ _ _ _)))); (first | walk1 | (dsimp only; walk1)))))
        all_goals first | exact TestEnd.of (test1 (by assumption) (by assumption)) (by assumption) (by assumption) | exact TestEnd.of (test2 (by assumption)) (by assumption) (by assumption) | exact TestEnd.of (test3 (by assumption)) (by assumption) (by assumption)
      clear F' N'
      intro ys1 hys1
      unfold LCg.FinE
      intro E1 h tk F' N' o1
      refine LCg.CompEnd.intro F' N' [(E1, _), (D1, _), (a2, _), (a1, _), (a, _), (L' + 1 + 1, oC), (L' + 1, oS)] (by lcg_sub) ?_ (.inr ⟨_, .tail _ (.head _), rfl, _, rfl⟩) ?_
      · exact ⟨⟨o1.1.symm, o1.2.1.symm, o1.2.2.1.symm⟩, off'⟩
      clear F' N' off' ne' hC' hx' hv' o1
      refine LCg.CompRest.succ ?_
      intro v' I' oI' C' oC' D' m' h' tk' E' hv' hC' hx' F' N' off' ne'
      obtain rfl : Value.ref a2 = v' := Option.some.inj hv'
      (repeat' (first | (k_unfold; (try dsimp only)) | ((((((((((fail_if_success (with_reducible show wpAny _ _ (exec (Stmt.While _ _ _ _) _) _ _ _)); (fail_if_success (with_reducible show wpAny _ _ (exec (Stmt.For _ _ _ _ _) _) _ _ _)))); (fail_if_success (with_reducible show InvEndN _ _ _ _ _ _ _)); (fail_if_success (with_reducible show wpAny _ _ (binaryOp Operator.Mult (Value.ref _) _) _ _ _)); (fail_if_success (with_reducible show wpAny _ _ (binaryOp Operator.Add (Value.ref _) _) _ _ _)); (fail_if_success (with_reducible show wpAny _ _ (subscriptTail _ _ (Value.ref _) _) _ _ _)); (fail_if_success (with_reducible show wpAny _ _ (call (Value.builtin "list.pop") _) _ _ _)); (fail_if_success (with_reducible show wpAny _ _ (call (Value.builtin _) [Value.str _ _, Value.ref _]) _ _ _)))); (fail_if_success (with_reducible show wpAny _ _ (exec (Stmt.Assign _ (Expr.ListComp _ _ _ _) _) _) _ _ _)); (fail_if_success (with_reducible show wpAny _ _ (exec (Stmt.Assign _ (Expr.SetComp _ _ _ _) _) _) _ _ _)); (fail_if_success (with_reducible show wpAny _ _ (exec (Stmt.Try _ _ _ _ _) _) _ _ _)); (fail_if_success (with_reducible show wpAny _ _ (call (Value.builtin _) [Value.ref _]) _ _ _)); (fail_if_success (with_reducible show wpAny _ _ (call (Value.type _) [Value.ref _]) _ _ _)); (fail_if_success (with_reducible show EnumEnd _ _ _ _ _ _ _ _)); (fail_if_success (with_reducible show ForMid _ _ _ _ _ _ _ _)); (fail_if_success (with_reducible show wpAny _ _ (eval (Expr.ListComp _ _ _ _) _) _ _ _)); (fail_if_success (with_reducible show LCt.CompSrcT _ _ _ _ _ _ _ _ _ _ _ _ _ _ _)); (fail_if_success (with_reducible show TestEnd _ _ _ _ _ _ _ _)))); (fail_if_success (with_reducible show LCg.CompRest _ _ _ _ _ _ _ _ _ _ _ _ _ _ _ _ _ _ _)); (fail_if_success (with_reducible show LCg.CompEnd _ _ _ _ _ _ _ _ _ _ _ _ _ _)))); (first | walk1 | (dsimp only; walk1)))))
      refine LCt.ListComp_T (F₀ := F') (by rfl) (by decide) rfl (by decide) rfl ?_
      (repeat' (first | (k_unfold; (try dsimp only)) | ((((((((((fail_if_success (with_reducible show wpAny _ _ (exec (Stmt.While _ _ _ _) _) _ _ _)); (fail_if_success (with_reducible show wpAny _ _ (exec (Stmt.For _ _ _ _ _) _) _ _ _)))); (fail_if_success (with_reducible show InvEndN _ _ _ _ _ _ _)); (fail_if_success (with_reducible show wpAny _ _ (binaryOp Operator.Mult (Value.ref _) _) _ _ _)); (fail_if_success (with_reducible show wpAny _ _ (binaryOp Operator.Add (Value.ref _) _) _ _ _)); (fail_if_success (with_reducible show wpAny _ _ (subscriptTail _ _ (Value.ref _) _) _ _ _)); (fail_if_success (with_reducible show wpAny _ _ (call (Value.builtin "list.pop") _) _ _ _)); (fail_if_success (with_reducible show wpAny _ _ (call (Value.builtin _) [Value.str _ _, Value.ref _]) _ _ _)))); (fail_if_success (with_reducible show wpAny _ _ (exec (Stmt.Assign _ (Expr.ListComp _ _ _ _) _) _) _ _ _)); (fail_if_success (with_reducible show wpAny _ _ (exec (Stmt.Assign _ (Expr.SetComp _ _ _ _) _) _) _ _ _)); (fail_if_success (with_reducible show wpAny _ _ (exec (Stmt.Try _ _ _ _ _) _) _ _ _)); (fail_if_success (with_reducible show wpAny _ _ (call (Value.builtin _) [Value.ref _]) _ _ _)); (fail_if_success (with_reducible show wpAny _ _ (call (Value.type _) [Value.ref _]) _ _ _)); (fail_if_success (with_reducible show EnumEnd _ _ _ _ _ _ _ _)); (fail_if_success (with_reducible show ForMid _ _ _ _ _ _ _ _)); (fail_if_success (with_reducible show wpAny _ _ (eval (Expr.ListComp _ _ _ _) _) _ _ _)); (fail_if_success (with_reducible show LCt.CompSrcT _ _ _ _ _ _ _ _ _ _ _ _ _ _ _)); (fail_if_success (with_reducible show TestEnd _ _ _ _ _ _ _ _)))); (fail_if_success (with_reducible show LCg.CompRest _ _ _ _ _ _ _ _ _ _ _ _ _ _ _ _ _ _ _)); (fail_if_success (with_reducible show LCg.CompEnd _ _ _ _ _ _ _ _ _ _ _ _ _ _)))); (first | walk1 | (dsimp only; walk1)))))
      refine LCt.CompSrcT.ledger rfl F' N' (k := 0) (by k_mem) (by rw [List.size_toArray, hs2.length]; exact Nat.le_trans (split_len y) zy) (fun g => ?_)
      refine rest_texts (fun c => decide (c ≠ Str.ofString "") && decide (c ≠ Str.ofString ".")) hs2 (.inr ⟨_, by k_mem, rfl, _, rfl⟩) rfl rfl (by decide) ?_ ?_
      · intro y₁ u₁ I oI C oC₁ D m₂ ys h tk E' hy₁ hC hx₁ F N off
        have hle : y₁.length ≤ 64 := Nat.le_trans (b2 _ hy₁) (by assumption)
        (repeat' (first | (k_unfold; (try dsimp only)) | ((((((((((fail_if_success (with_reducible show wpAny _ _ (exec (Stmt.While _ _ _ _) _) _ _ _)); (fail_if_success (with_reducible show wpAny _ _ (exec (Stmt.For _ _ _ _ _) _) _ _ _)))); (fail_if_success (with_reducible show InvEndN _ _ _ _ _ _ _)); (fail_if_success (with_reducible show wpAny _ _ (binaryOp Operator.Mult (Value.ref _) _) _ _ _)); (fail_if_success (with_reducible show wpAny _ _ (binaryOp Operator.Add (Value.ref _) _) _ _ _)); (fail_if_success (with_reducible show wpAny _ _ (subscriptTail _ _ (Value.ref _) _) _ _ _)); (fail_if_success (with_reducible show wpAny _ _ (call (Value.builtin "list.pop") _) _ _ _)); (fail_if_success (with_reducible show wpAny _ _ (call (Value.builtin _) [Value.str _ _, Value.ref _]) _ _ _)))); (fail_if_success (with_reducible show wpAny _ _ (exec (Stmt.Assign _ (Expr.ListComp _ _ _ _) _) _) _ _ _)); (fail_if_success (with_reducible show wpAny _ _ (exec (Stmt.Assign _ (Expr.SetComp _ _ _ _) _) _) _ _ _)); (fail_if_success (with_reducible show wpAny _ _ (exec (Stmt.Try _ _ _ _ _) _) _ _ _)); (fail_if_success (with_reducible show wpAny _ _ (call (Value.builtin _) [Value.ref _]) _ _ _)); (fail_if_success (with_reducible show wpAny _ _ (call (Value.type _) [Value.ref _]) _ _ _)); (fail_if_success (with_reducible show EnumEnd _ _ _ _ _ _ _ _)); (fail_if_success (with_reducible show ForMid _ _ _ _ _ _ _ _)); (fail_if_success (with_reducible show wpAny _ _ (eval (Expr.ListComp _ _ _ _) _) _ _ _)); (fail_if_success (with_reducible show LCt.CompSrcT _ _ _ _ _ _ _ _ _ _ _ _ _ _ _)); (fail_if_success (with_reducible show TestEnd _ _ _ _ _ _ _ _)))); (fail_if_success (with_reducible show LCg.CompRest _ _ _ _ _ _ _ _ _ _ _ _ _ _ _ _ _ _ _)); (fail_if_success (with_reducible show LCg.CompEnd _ _ _ _ _ _ _ _ _ _ _ _ _ _)))); (first | walk1 | (dsimp only; walk1)))))
        all_goals first | exact TestEnd.of (test1 (by assumption) (by assumption)) (by assumption) (by assumption) | exact TestEnd.of (test2 (by assumption)) (by assumption) (by assumption) | exact TestEnd.of (test3 (by assumption)) (by assumption) (by assumption)
      clear F' N'
      intro ys2 hys2
      unfold LCg.FinE
      intro E2 h tk F' N' o1
      refine LCg.CompEnd.intro F' N' [(E2, _), (E1, _), (D1, _), (a2, _), (a1, _), (a, _), (L' + 1 + 1, oC), (L' + 1, oS)] (by lcg_sub) ?_ (.inr ⟨_, .tail _ (.tail _ (.head _)), rfl, _, rfl⟩) ?_
      · exact ⟨⟨o1.1.symm, o1.2.1.symm, o1.2.2.1.symm⟩, off'⟩
      clear F' N' off' ne' hC' hx' hv' o1
      refine LCg.CompRest.zero ?_
      unfold LCg.FinA
      intro D3 h tk F' N2 o1
      have N' : News s.heap L' _ [(D3, LCg.lst [.ref E1, .ref E2]), (E2, LCg.lst ys2), (E1, LCg.lst ys1), (L' + 1 + 1, oC), (L' + 1, oS)] := fun p hp => N2 p (by revert p hp; lcg_sub)
      clear N2 o1
      (repeat' (first | (k_unfold; (try dsimp only)) | ((((((((((fail_if_success (with_reducible show wpAny _ _ (exec (Stmt.While _ _ _ _) _) _ _ _)); (fail_if_success (with_reducible show wpAny _ _ (exec (Stmt.For _ _ _ _ _) _) _ _ _)))); (fail_if_success (with_reducible show InvEndN _ _ _ _ _ _ _)); (fail_if_success (with_reducible show wpAny _ _ (binaryOp Operator.Mult (Value.ref _) _) _ _ _)); (fail_if_success (with_reducible show wpAny _ _ (binaryOp Operator.Add (Value.ref _) _) _ _ _)); (fail_if_success (with_reducible show wpAny _ _ (subscriptTail _ _ (Value.ref _) _) _ _ _)); (fail_if_success (with_reducible show wpAny _ _ (call (Value.builtin "list.pop") _) _ _ _)); (fail_if_success (with_reducible show wpAny _ _ (call (Value.builtin _) [Value.str _ _, Value.ref _]) _ _ _)))); (fail_if_success (with_reducible show wpAny _ _ (exec (Stmt.Assign _ (Expr.ListComp _ _ _ _) _) _) _ _ _)); (fail_if_success (with_reducible show wpAny _ _ (exec (Stmt.Assign _ (Expr.SetComp _ _ _ _) _) _) _ _ _)); (fail_if_success (with_reducible show wpAny _ _ (exec (Stmt.Try _ _ _ _ _) _) _ _ _)); (fail_if_success (with_reducible show wpAny _ _ (call (Value.builtin _) [Value.ref _]) _ _ _)); (fail_if_success (with_reducible show wpAny _ _ (call (Value.type _) [Value.ref _]) _ _ _)); (fail_if_success (with_reducible show EnumEnd _ _ _ _ _ _ _ _)); (fail_if_success (with_reducible show ForMid _ _ _ _ _ _ _ _)); (fail_if_success (with_reducible show wpAny _ _ (eval (Expr.ListComp _ _ _ _) _) _ _ _)); (fail_if_success (with_reducible show LCt.CompSrcT _ _ _ _ _ _ _ _ _ _ _ _ _ _ _)); (fail_if_success (with_reducible show TestEnd _ _ _ _ _ _ _ _)))); (fail_if_success (with_reducible show LCg.CompRest _ _ _ _ _ _ _ _ _ _ _ _ _ _ _ _ _ _ _)); (fail_if_success (with_reducible show LCg.CompEnd _ _ _ _ _ _ _ _ _ _ _ _ _ _)))); (first | walk1 | (dsimp only; walk1)))))
      rename Fr _ _ _ _ => F'
      rename News _ _ _ _ => N'
      change Fr s.heap L' _ _ at F'
      change StrsAre ys1 (sift x) at hys1
      change StrsAre ys2 (sift y) at hys2
      refine min_two_lists (a := E1) (b := E2) rfl ⟨_, (N' _ (.head _)).1, rfl, _, rfl⟩ ⟨_, (N' _ (.tail _ (.tail _ (.head _)))).1, rfl, _, rfl⟩ ⟨_, (N' _ (.tail _ (.head _))).1, rfl, _, rfl⟩ hys1 hys2 (by dsimp only [Around.deeper]; omega) ?_
      intro h9 tk9 up
      replace F' := F'.keeps up
      replace N' := N'.grown up
      clear up
      (repeat' (first | (k_unfold; (try dsimp only)) | ((((((((((fail_if_success (with_reducible show wpAny _ _ (exec (Stmt.While _ _ _ _) _) _ _ _)); (fail_if_success (with_reducible show wpAny _ _ (exec (Stmt.For _ _ _ _ _) _) _ _ _)))); (fail_if_success (with_reducible show InvEndN _ _ _ _ _ _ _)); (fail_if_success (with_reducible show wpAny _ _ (binaryOp Operator.Mult (Value.ref _) _) _ _ _)); (fail_if_success (with_reducible show wpAny _ _ (binaryOp Operator.Add (Value.ref _) _) _ _ _)); (fail_if_success (with_reducible show wpAny _ _ (subscriptTail _ _ (Value.ref _) _) _ _ _)); (fail_if_success (with_reducible show wpAny _ _ (call (Value.builtin "list.pop") _) _ _ _)); (fail_if_success (with_reducible show wpAny _ _ (call (Value.builtin _) [Value.str _ _, Value.ref _]) _ _ _)))); (fail_if_success (with_reducible show wpAny _ _ (exec (Stmt.Assign _ (Expr.ListComp _ _ _ _) _) _) _ _ _)); (fail_if_success (with_reducible show wpAny _ _ (exec (Stmt.Assign _ (Expr.SetComp _ _ _ _) _) _) _ _ _)); (fail_if_success (with_reducible show wpAny _ _ (exec (Stmt.Try _ _ _ _ _) _) _ _ _)); (fail_if_success (with_reducible show wpAny _ _ (call (Value.builtin _) [Value.ref _]) _ _ _)); (fail_if_success (with_reducible show wpAny _ _ (call (Value.type _) [Value.ref _]) _ _ _)); (fail_if_success (with_reducible show EnumEnd _ _ _ _ _ _ _ _)); (fail_if_success (with_reducible show ForMid _ _ _ _ _ _ _ _)); (fail_if_success (with_reducible show wpAny _ _ (eval (Expr.ListComp _ _ _ _) _) _ _ _)); (fail_if_success (with_reducible show LCt.CompSrcT _ _ _ _ _ _ _ _ _ _ _ _ _ _ _)); (fail_if_success (with_reducible show TestEnd _ _ _ _ _ _ _ _)))); (fail_if_success (with_reducible show LCg.CompRest _ _ _ _ _ _ _ _ _ _ _ _ _ _ _ _ _ _ _)); (fail_if_success (with_reducible show LCg.CompEnd _ _ _ _ _ _ _ _ _ _ _ _ _ _)))); (first | walk1 | (dsimp only; walk1)))))
      rename Fr _ _ _ _ => F'
      rename News _ _ _ _ => N'
      refine max_two_lists (a := E1) (b := E2) rfl ⟨_, (N' _ (.head _)).1, rfl, _, rfl⟩ ⟨_, (N' _ (.tail _ (.tail _ (.head _)))).1, rfl, _, rfl⟩ ⟨_, (N' _ (.tail _ (.head _))).1, rfl, _, rfl⟩ hys1 hys2 (by dsimp only [Around.deeper]; omega) ?_
      intro h9 tk9 up
      replace F' := F'.keeps up
      replace N' := N'.grown up
      clear up
      have hmm := minmax (sift x) (sift y)
      obtain ⟨S1, V1, q1, m1, k1⟩ : ∃ S1 V1, (if ltL false (sift y) (sift x) = true then Value.ref E2 else .ref E1) = .ref S1 ∧ (S1, LCg.lst V1) ∈ [(D3, LCg.lst [Value.ref E1, Value.ref E2]), (E2, LCg.lst ys2), (E1, LCg.lst ys1), (L' + 1 + 1, oC), (L' + 1, oS)] ∧ StrsAre V1 (if ltL false (sift y) (sift x) = true then sift y else sift x) := by
        split
        · exact ⟨E2, ys2, rfl, .tail _ (.head _), hys2⟩
        · exact ⟨E1, ys1, rfl, .tail _ (.tail _ (.head _)), hys1⟩
      obtain ⟨S2, V2, q2, m2, k2⟩ : ∃ S2 V2, (if ltL true (sift y) (sift x) = true then Value.ref E2 else .ref E1) = .ref S2 ∧ (S2, LCg.lst V2) ∈ [(D3, LCg.lst [Value.ref E1, Value.ref E2]), (E2, LCg.lst ys2), (E1, LCg.lst ys1), (L' + 1 + 1, oC), (L' + 1, oS)] ∧ StrsAre V2 (if ltL true (sift y) (sift x) = true then sift y else sift x) := by
        split
        · exact ⟨E2, ys2, rfl, .tail _ (.head _), hys2⟩
        · exact ⟨E1, ys1, rfl, .tail _ (.tail _ (.head _)), hys1⟩
      rw [q1] at F'
      rw [q2]
      clear q1 q2 hys1 hys2
      have z1 : (if ltL false (sift y) (sift x) = true then sift y else sift x).length ≤ 65 ∧ ∀ c ∈ (if ltL false (sift y) (sift x) = true then sift y else sift x), c.length ≤ 64 := by
        split
        · exact sift_sub b2 hy
        · exact sift_sub b1 hx
      have z2 : ∀ c ∈ (if ltL true (sift y) (sift x) = true then sift y else sift x), c.length ≤ 64 := by
        split
        · exact (sift_sub b2 hy).2
        · exact (sift_sub b1 hx).2
      generalize (if ltL false (sift y) (sift x) = true then sift y else sift x) = X1 at *
      generalize (if ltL true (sift y) (sift x) = true then sift y else sift x) = X2 at *
      (repeat' (first | (k_unfold; (try dsimp only)) | ((((((((((fail_if_success (with_reducible show wpAny _ _ (exec (Stmt.While _ _ _ _) _) _ _ _)); (fail_if_success (with_reducible show wpAny _ _ (exec (Stmt.For _ _ _ _ _) _) _ _ _)))); (fail_if_success (with_reducible show InvEndN _ _ _ _ _ _ _)); (fail_if_success (with_reducible show wpAny _ _ (binaryOp Operator.Mult (Value.ref _) _) _ _ _)); (fail_if_success (with_reducible show wpAny _ _ (binaryOp Operator.Add (Value.ref _) _) _ _ _)); (fail_if_success (with_reducible show wpAny _ _ (subscriptTail _ _ (Value.ref _) _) _ _ _)); (fail_if_success (with_reducible show wpAny _ _ (call (Value.builtin "list.pop") _) _ _ _)); (fail_if_success (with_reducible show wpAny _ _ (call (Value.builtin _) [Value.str _ _, Value.ref _]) _ _ _)))); (fail_if_success (with_reducible show wpAny _ _ (exec (Stmt.Assign _ (Expr.ListComp _ _ _ _) _) _) _ _ _)); (fail_if_success (with_reducible show wpAny _ _ (exec (Stmt.Assign _ (Expr.SetComp _ _ _ _) _) _) _ _ _)); (fail_if_success (with_reducible show wpAny _ _ (exec (Stmt.Try _ _ _ _ _) _) _ _ _)); (fail_if_success (with_reducible show wpAny _ _ (call (Value.builtin _) [Value.ref _]) _ _ _)); (fail_if_success (with_reducible show wpAny _ _ (call (Value.type _) [Value.ref _]) _ _ _)); (fail_if_success (with_reducible show EnumEnd _ _ _ _ _ _ _ _)); (fail_if_success (with_reducible show ForMid _ _ _ _ _ _ _ _)); (fail_if_success (with_reducible show wpAny _ _ (eval (Expr.ListComp _ _ _ _) _) _ _ _)); (fail_if_success (with_reducible show LCt.CompSrcT _ _ _ _ _ _ _ _ _ _ _ _ _ _ _)); (fail_if_success (with_reducible show TestEnd _ _ _ _ _ _ _ _)))); (fail_if_success (with_reducible show LCg.CompRest _ _ _ _ _ _ _ _ _ _ _ _ _ _ _ _ _ _ _)); (fail_if_success (with_reducible show LCg.CompEnd _ _ _ _ _ _ _ _ _ _ _ _ _ _)))); (first | walk1 | (dsimp only; walk1)))))
      rename Fr _ _ _ _ => F'
      rename News _ _ _ _ => N'
      refine wpAny_mono (Q := ForMid s.heap L' s [(L' + 1 + 1, oC), (L' + 1, oS)] (Txt.startswith x (Str.ofString "/")) (X1.take (alike X1 X2))) ?loop (fun fl s₉ hm => ?rest) (fun _ _ x => x)
      case rest =>
        clear F' N' m1 m2
        cases hm with
        | mk D o V n m' h' tk' F' N' c1 c2 c3 c4 c5 =>
          replace F' := nam2 F' c4 c5
          clear c4 c5
          have hsum : ((X1.take (alike X1 X2)).map (·.length)).sum ≤ (X1.take (alike X1 X2)).length * 64 := sum_le fun y hy => z1.2 y (List.mem_of_mem_take hy)
          have hlen : (X1.take (alike X1 X2)).length ≤ 65 := by rw [List.length_take]; exact Nat.le_trans (Nat.min_le_right _ _) z1.1
          have hz := hmm.1
          unfold commonS at ret
          rw [← hz] at ret
          clear hz hmm z1 z2 k1 k2
          generalize X1.take (alike X1 X2) = zs at *
          (repeat' (first | (k_unfold; (try dsimp only)) | ((((((((((fail_if_success (with_reducible show wpAny _ _ (exec (Stmt.While _ _ _ _) _) _ _ _)); (fail_if_success (with_reducible show wpAny _ _ (exec (Stmt.For _ _ _ _ _) _) _ _ _)))); (fail_if_success (with_reducible show InvEndN _ _ _ _ _ _ _)); (fail_if_success (with_reducible show wpAny _ _ (binaryOp Operator.Mult (Value.ref _) _) _ _ _)); (fail_if_success (with_reducible show wpAny _ _ (binaryOp Operator.Add (Value.ref _) _) _ _ _)); (fail_if_success (with_reducible show wpAny _ _ (subscriptTail _ _ (Value.ref _) _) _ _ _)); (fail_if_success (with_reducible show wpAny _ _ (call (Value.builtin "list.pop") _) _ _ _)); (fail_if_success (with_reducible show wpAny _ _ (call (Value.builtin _) [Value.str _ _, Value.ref _]) _ _ _)))); (fail_if_success (with_reducible show wpAny _ _ (exec (Stmt.Assign _ (Expr.ListComp _ _ _ _) _) _) _ _ _)); (fail_if_success (with_reducible show wpAny _ _ (exec (Stmt.Assign _ (Expr.SetComp _ _ _ _) _) _) _ _ _)); (fail_if_success (with_reducible show wpAny _ _ (exec (Stmt.Try _ _ _ _ _) _) _ _ _)); (fail_if_success (with_reducible show wpAny _ _ (call (Value.builtin _) [Value.ref _]) _ _ _)); (fail_if_success (with_reducible show wpAny _ _ (call (Value.type _) [Value.ref _]) _ _ _)); (fail_if_success (with_reducible show EnumEnd _ _ _ _ _ _ _ _)); (fail_if_success (with_reducible show ForMid _ _ _ _ _ _ _ _)); (fail_if_success (with_reducible show wpAny _ _ (eval (Expr.ListComp _ _ _ _) _) _ _ _)); (fail_if_success (with_reducible show LCt.CompSrcT _ _ _ _ _ _ _ _ _ _ _ _ _ _ _)); (fail_if_success (with_reducible show TestEnd _ _ _ _ _ _ _ _)))); (fail_if_success (with_reducible show LCg.CompRest _ _ _ _ _ _ _ _ _ _ _ _ _ _ _ _ _ _ _)); (fail_if_success (with_reducible show LCg.CompEnd _ _ _ _ _ _ _ _ _ _ _ _ _ _)))); (first | walk1 | (dsimp only; walk1)))))
          all_goals
            rename Fr _ _ _ _ => F'
            rename News _ _ _ _ => N'
            refine' join_listW ?l6 ?s6 (by decide +kernel) ?z6 ?_
            case l6 => exact ⟨_, (N' _ (.head _)).1, c1, _, c2⟩
            case s6 => exact c3
            case z6 => omega
            intro t' k'
            have hjl := join_len (Str.ofString "/") zs
            rw [tjoin]
            rw [show (Str.ofString "/").length = 1 from rfl] at hjl
            generalize hJ : Str.join (Str.ofString "/") zs = J at *
            have hJ2 : J.length ≤ 8000 := by omega
            clear hjl
            (repeat' (first | (k_unfold; (try dsimp only)) | ((((((((((fail_if_success (with_reducible show wpAny _ _ (exec (Stmt.While _ _ _ _) _) _ _ _)); (fail_if_success (with_reducible show wpAny _ _ (exec (Stmt.For _ _ _ _ _) _) _ _ _)))); (fail_if_success (with_reducible show InvEndN _ _ _ _ _ _ _)); (fail_if_success (with_reducible show wpAny _ _ (binaryOp Operator.Mult (Value.ref _) _) _ _ _)); (fail_if_success (with_reducible show wpAny _ _ (binaryOp Operator.Add (Value.ref _) _) _ _ _)); (fail_if_success (with_reducible show wpAny _ _ (subscriptTail _ _ (Value.ref _) _) _ _ _)); (fail_if_success (with_reducible show wpAny _ _ (call (Value.builtin "list.pop") _) _ _ _)); (fail_if_success (with_reducible show wpAny _ _ (call (Value.builtin _) [Value.str _ _, Value.ref _]) _ _ _)))); (fail_if_success (with_reducible show wpAny _ _ (exec (Stmt.Assign _ (Expr.ListComp _ _ _ _) _) _) _ _ _)); (fail_if_success (with_reducible show wpAny _ _ (exec (Stmt.Assign _ (Expr.SetComp _ _ _ _) _) _) _ _ _)); (fail_if_success (with_reducible show wpAny _ _ (exec (Stmt.Try _ _ _ _ _) _) _ _ _)); (fail_if_success (with_reducible show wpAny _ _ (call (Value.builtin _) [Value.ref _]) _ _ _)); (fail_if_success (with_reducible show wpAny _ _ (call (Value.type _) [Value.ref _]) _ _ _)); (fail_if_success (with_reducible show EnumEnd _ _ _ _ _ _ _ _)); (fail_if_success (with_reducible show ForMid _ _ _ _ _ _ _ _)); (fail_if_success (with_reducible show wpAny _ _ (eval (Expr.ListComp _ _ _ _) _) _ _ _)); (fail_if_success (with_reducible show LCt.CompSrcT _ _ _ _ _ _ _ _ _ _ _ _ _ _ _)); (fail_if_success (with_reducible show TestEnd _ _ _ _ _ _ _ _)))); (fail_if_success (with_reducible show LCg.CompRest _ _ _ _ _ _ _ _ _ _ _ _ _ _ _ _ _ _ _)); (fail_if_success (with_reducible show LCg.CompEnd _ _ _ _ _ _ _ _ _ _ _ _ _ _)))); (first | walk1 | (dsimp only; walk1)))))
            rename Fr _ _ _ _ => F'
            rename News _ _ _ _ => N'
            obtain ⟨FR, NR, -⟩ := back.out (R := []) F' N' (fun _ h => nomatch h)
          · rw [if_pos (by assumption)] at ret
            exact ret _ _ _ FR NR
          · rename Txt.startswith x _ = false => q
            rw [if_neg (by rw [q]; decide)] at ret
            exact ret _ _ _ FR NR
      case loop =>
        refine For_turns F' ?_
        (repeat' (first | (k_unfold; (try dsimp only)) | ((((((((((fail_if_success (with_reducible show wpAny _ _ (exec (Stmt.While _ _ _ _) _) _ _ _)); (fail_if_success (with_reducible show wpAny _ _ (exec (Stmt.For _ _ _ _ _) _) _ _ _)))); (fail_if_success (with_reducible show InvEndN _ _ _ _ _ _ _)); (fail_if_success (with_reducible show wpAny _ _ (binaryOp Operator.Mult (Value.ref _) _) _ _ _)); (fail_if_success (with_reducible show wpAny _ _ (binaryOp Operator.Add (Value.ref _) _) _ _ _)); (fail_if_success (with_reducible show wpAny _ _ (subscriptTail _ _ (Value.ref _) _) _ _ _)); (fail_if_success (with_reducible show wpAny _ _ (call (Value.builtin "list.pop") _) _ _ _)); (fail_if_success (with_reducible show wpAny _ _ (call (Value.builtin _) [Value.str _ _, Value.ref _]) _ _ _)))); (fail_if_success (with_reducible show wpAny _ _ (exec (Stmt.Assign _ (Expr.ListComp _ _ _ _) _) _) _ _ _)); (fail_if_success (with_reducible show wpAny _ _ (exec (Stmt.Assign _ (Expr.SetComp _ _ _ _) _) _) _ _ _)); (fail_if_success (with_reducible show wpAny _ _ (exec (Stmt.Try _ _ _ _ _) _) _ _ _)); (fail_if_success (with_reducible show wpAny _ _ (call (Value.builtin _) [Value.ref _]) _ _ _)); (fail_if_success (with_reducible show wpAny _ _ (call (Value.type _) [Value.ref _]) _ _ _)); (fail_if_success (with_reducible show EnumEnd _ _ _ _ _ _ _ _)); (fail_if_success (with_reducible show ForMid _ _ _ _ _ _ _ _)); (fail_if_success (with_reducible show wpAny _ _ (eval (Expr.ListComp _ _ _ _) _) _ _ _)); (fail_if_success (with_reducible show LCt.CompSrcT _ _ _ _ _ _ _ _ _ _ _ _ _ _ _)); (fail_if_success (with_reducible show TestEnd _ _ _ _ _ _ _ _)))); (fail_if_success (with_reducible show LCg.CompRest _ _ _ _ _ _ _ _ _ _ _ _ _ _ _ _ _ _ _)); (fail_if_success (with_reducible show LCg.CompEnd _ _ _ _ _ _ _ _ _ _ _ _ _ _)))); (first | walk1 | (dsimp only; walk1)))))
        refine enum_turns (vs := V1) (fun i m => m (Str.ofString "s1") = some (.ref S1) ∧ m (Str.ofString "s2") = some (.ref S2) ∧ m (Str.ofString "common") = some (.ref S1) ∧ m (Str.ofString "isabs") = some (.bool (Txt.startswith x (Str.ofString "/"))) ∧ ∀ j, j < i → ∃ a, X1[j]? = some a ∧ X2[j]? = some a)
          rfl F' N' ⟨_, m1, rfl, _, rfl⟩ ⟨rfl, rfl, rfl, rfl, fun j hj => absurd hj (Nat.not_lt_zero _)⟩ ?turn ?done
        case turn =>
          clear F' N'
          intro i v m₁ h tk own T tt hv hJ hT F' N'
          obtain ⟨e1, e2, e3, e4, e5⟩ := hJ
          replace F' := nam4 F' e1 e2 e3 e4
          clear e1 e2 e3 e4
          have hi : i < V1.length := (List.getElem?_eq_some_iff.mp hv).1
          obtain ⟨c, tc, v1, v2⟩ := strs_nth k1 i hi
          obtain rfl : v = .str c tc := Option.some.inj (hv.symm.trans v1)
          have hc := z1.2 _ (List.mem_of_getElem? v2)
          have hi2 : i < X2.length := alike_room e5 (by rw [← k1.length]; exact hi) hmm.2
          have v3 : X2[i]? = some X2[i] := by simp [hi2]
          have hc2 := z2 _ (List.mem_of_getElem? v3)
          generalize X2[i] = c2 at *
          (repeat' (first | (k_unfold; (try dsimp only)) | ((((((((((fail_if_success (with_reducible show wpAny _ _ (exec (Stmt.While _ _ _ _) _) _ _ _)); (fail_if_success (with_reducible show wpAny _ _ (exec (Stmt.For _ _ _ _ _) _) _ _ _)))); (fail_if_success (with_reducible show InvEndN _ _ _ _ _ _ _)); (fail_if_success (with_reducible show wpAny _ _ (binaryOp Operator.Mult (Value.ref _) _) _ _ _)); (fail_if_success (with_reducible show wpAny _ _ (binaryOp Operator.Add (Value.ref _) _) _ _ _)); (fail_if_success (with_reducible show wpAny _ _ (subscriptTail _ _ (Value.ref _) _) _ _ _)); (fail_if_success (with_reducible show wpAny _ _ (call (Value.builtin "list.pop") _) _ _ _)); (fail_if_success (with_reducible show wpAny _ _ (call (Value.builtin _) [Value.str _ _, Value.ref _]) _ _ _)))); (fail_if_success (with_reducible show wpAny _ _ (exec (Stmt.Assign _ (Expr.ListComp _ _ _ _) _) _) _ _ _)); (fail_if_success (with_reducible show wpAny _ _ (exec (Stmt.Assign _ (Expr.SetComp _ _ _ _) _) _) _ _ _)); (fail_if_success (with_reducible show wpAny _ _ (exec (Stmt.Try _ _ _ _ _) _) _ _ _)); (fail_if_success (with_reducible show wpAny _ _ (call (Value.builtin _) [Value.ref _]) _ _ _)); (fail_if_success (with_reducible show wpAny _ _ (call (Value.type _) [Value.ref _]) _ _ _)); (fail_if_success (with_reducible show EnumEnd _ _ _ _ _ _ _ _)); (fail_if_success (with_reducible show ForMid _ _ _ _ _ _ _ _)); (fail_if_success (with_reducible show wpAny _ _ (eval (Expr.ListComp _ _ _ _) _) _ _ _)); (fail_if_success (with_reducible show LCt.CompSrcT _ _ _ _ _ _ _ _ _ _ _ _ _ _ _)); (fail_if_success (with_reducible show TestEnd _ _ _ _ _ _ _ _)))); (fail_if_success (with_reducible show LCg.CompRest _ _ _ _ _ _ _ _ _ _ _ _ _ _ _ _ _ _ _)); (fail_if_success (with_reducible show LCg.CompEnd _ _ _ _ _ _ _ _ _ _ _ _ _ _)))); (first | walk1 | (dsimp only; walk1)))))
          rename Fr _ _ _ _ => F'
          rename News _ _ _ _ => N'
          refine item_strs ⟨_, (N' _ (List.mem_append_left _ m2)).1, rfl, _, rfl⟩ k2 v3 (by have := k1.length; omega) ?_
          intro t2
          (repeat' (first | (k_unfold; (try dsimp only)) | ((((((((((fail_if_success (with_reducible show wpAny _ _ (exec (Stmt.While _ _ _ _) _) _ _ _)); (fail_if_success (with_reducible show wpAny _ _ (exec (Stmt.For _ _ _ _ _) _) _ _ _)))); (fail_if_success (with_reducible show InvEndN _ _ _ _ _ _ _)); (fail_if_success (with_reducible show wpAny _ _ (binaryOp Operator.Mult (Value.ref _) _) _ _ _)); (fail_if_success (with_reducible show wpAny _ _ (binaryOp Operator.Add (Value.ref _) _) _ _ _)); (fail_if_success (with_reducible show wpAny _ _ (subscriptTail _ _ (Value.ref _) _) _ _ _)); (fail_if_success (with_reducible show wpAny _ _ (call (Value.builtin "list.pop") _) _ _ _)); (fail_if_success (with_reducible show wpAny _ _ (call (Value.builtin _) [Value.str _ _, Value.ref _]) _ _ _)))); (fail_if_success (with_reducible show wpAny _ _ (exec (Stmt.Assign _ (Expr.ListComp _ _ _ _) _) _) _ _ _)); (fail_if_success (with_reducible show wpAny _ _ (exec (Stmt.Assign _ (Expr.SetComp _ _ _ _) _) _) _ _ _)); (fail_if_success (with_reducible show wpAny _ _ (exec (Stmt.Try _ _ _ _ _) _) _ _ _)); (fail_if_success (with_reducible show wpAny _ _ (call (Value.builtin _) [Value.ref _]) _ _ _)); (fail_if_success (with_reducible show wpAny _ _ (call (Value.type _) [Value.ref _]) _ _ _)); (fail_if_success (with_reducible show EnumEnd _ _ _ _ _ _ _ _)); (fail_if_success (with_reducible show ForMid _ _ _ _ _ _ _ _)); (fail_if_success (with_reducible show wpAny _ _ (eval (Expr.ListComp _ _ _ _) _) _ _ _)); (fail_if_success (with_reducible show LCt.CompSrcT _ _ _ _ _ _ _ _ _ _ _ _ _ _ _)); (fail_if_success (with_reducible show TestEnd _ _ _ _ _ _ _ _)))); (fail_if_success (with_reducible show LCg.CompRest _ _ _ _ _ _ _ _ _ _ _ _ _ _ _ _ _ _ _)); (fail_if_success (with_reducible show LCg.CompEnd _ _ _ _ _ _ _ _ _ _ _ _ _ _)))); (first | walk1 | (dsimp only; walk1)))))
          · rename (_ != _) = true => q
            have q' := bne_iff_ne.mp q
            have hal : alike X1 X2 = i := alike_step X1 X2 i e5 fun a w1 w2 => q' (by rw [v2] at w1; rw [v3] at w2; exact (Option.some.inj w1).trans (Option.some.inj w2).symm)
            rename Fr _ _ _ _ => F'
            rename News _ _ _ _ => N'
            refine' kms_slice_lit ?f8 ?n8 ?l8 IsPart.none (IsPart.int _ _) (pick_take V1 i) ?_ ?s8 ?t8 ?z8
            case f8 => exact F'
            case n8 => exact N'
            case l8 => exact ⟨_, (N' _ (List.mem_append_left _ m1)).1, rfl, _, rfl⟩
            case s8 => with_unfolding_all rfl
            case t8 => kmk_pure
            case z8 => rw [List.size_toArray, k1.length]; exact Nat.le_trans z1.1 (by decide)
            clear F' N'
            intro D8 h8 F' N' l8
            (repeat' (first | (k_unfold; (try dsimp only)) | ((((((((((fail_if_success (with_reducible show wpAny _ _ (exec (Stmt.While _ _ _ _) _) _ _ _)); (fail_if_success (with_reducible show wpAny _ _ (exec (Stmt.For _ _ _ _ _) _) _ _ _)))); (fail_if_success (with_reducible show InvEndN _ _ _ _ _ _ _)); (fail_if_success (with_reducible show wpAny _ _ (binaryOp Operator.Mult (Value.ref _) _) _ _ _)); (fail_if_success (with_reducible show wpAny _ _ (binaryOp Operator.Add (Value.ref _) _) _ _ _)); (fail_if_success (with_reducible show wpAny _ _ (subscriptTail _ _ (Value.ref _) _) _ _ _)); (fail_if_success (with_reducible show wpAny _ _ (call (Value.builtin "list.pop") _) _ _ _)); (fail_if_success (with_reducible show wpAny _ _ (call (Value.builtin _) [Value.str _ _, Value.ref _]) _ _ _)))); (fail_if_success (with_reducible show wpAny _ _ (exec (Stmt.Assign _ (Expr.ListComp _ _ _ _) _) _) _ _ _)); (fail_if_success (with_reducible show wpAny _ _ (exec (Stmt.Assign _ (Expr.SetComp _ _ _ _) _) _) _ _ _)); (fail_if_success (with_reducible show wpAny _ _ (exec (Stmt.Try _ _ _ _ _) _) _ _ _)); (fail_if_success (with_reducible show wpAny _ _ (call (Value.builtin _) [Value.ref _]) _ _ _)); (fail_if_success (with_reducible show wpAny _ _ (call (Value.type _) [Value.ref _]) _ _ _)); (fail_if_success (with_reducible show EnumEnd _ _ _ _ _ _ _ _)); (fail_if_success (with_reducible show ForMid _ _ _ _ _ _ _ _)); (fail_if_success (with_reducible show wpAny _ _ (eval (Expr.ListComp _ _ _ _) _) _ _ _)); (fail_if_success (with_reducible show LCt.CompSrcT _ _ _ _ _ _ _ _ _ _ _ _ _ _ _)); (fail_if_success (with_reducible show TestEnd _ _ _ _ _ _ _ _)))); (fail_if_success (with_reducible show LCg.CompRest _ _ _ _ _ _ _ _ _ _ _ _ _ _ _ _ _ _ _)); (fail_if_success (with_reducible show LCg.CompEnd _ _ _ _ _ _ _ _ _ _ _ _ _ _)))); (first | walk1 | (dsimp only; walk1)))))
            rename Fr _ _ _ _ => F'
            rename News _ _ _ _ => N'
            refine .brk _ ?_
            rw [hal]
            exact .mk D8 _ (V1.take i) _ _ _ _ F' (fun p hp => by
              rcases List.mem_cons.mp hp with rfl | hp
              · exact N' _ (.head _)
              · exact N' _ (.tail _ (List.mem_append_left _ (.tail _ (.tail _ (.tail _ hp)))))) rfl rfl (strs_take k1 i) rfl rfl
          · rename (_ != _) = false => q
            have q' := bne_eq_false_iff_eq.mp q
            rename Fr _ _ _ _ => F'
            rename News _ _ _ _ => N'
            refine .next _ _ _ ⟨rfl, rfl, rfl, rfl, fun j hj => ?_⟩ F' N'
            by_cases hji : j = i
            · subst hji; exact ⟨c, v2, by rw [v3, q']⟩
            · exact e5 j (by omega)
        case done =>
          clear F' N'
          intro m₁ h tk hJ F' N'
          obtain ⟨e1, e2, e3, e4, e5⟩ := hJ
          have hal : alike X1 X2 = X1.length := alike_step X1 X2 _ (fun j hj => e5 j (by rw [k1.length]; exact hj)) fun a q _ => by rw [List.getElem?_eq_none (Nat.le_refl _)] at q; cases q
          rw [hal, List.take_length]
          exact .mk S1 _ V1 _ _ _ _ F' (fun p hp => by
            rcases List.mem_cons.mp hp with rfl | hp
            · exact N' _ m1
            · exact N' _ (.tail _ (.tail _ (.tail _ hp)))) rfl rfl k1 e3 e4
end

-- part agrees
theorem reset_agrees : True := by w_top off; trivial
section
variable {M : Model} {A : Around} {E : Value → Shared → Prop} {s : Shared} {env : Env} {e : Expr} {h₀ : Heap} {L : Addr} {m : Str → Option Value} {news : List (Addr × Obj)} {Q : Value → Shared → Prop}
/-- several ways to one text, to one number -/
inductive TextEnd (h₀ : Heap) (L : Addr) (m : Str → Option Value) (news : List (Addr × Obj)) (s : Shared) (y : Str) : Value → Shared → Prop
  | mk (t : Tok) (h' : Heap) (tk' : Nat) : Fr h₀ L h' m → News h₀ L h' news → TextEnd h₀ L m news s y (.str y t) { s with heap := h', toks := tk' }
inductive IntEnd (h₀ : Heap) (L : Addr) (m : Str → Option Value) (news : List (Addr × Obj)) (s : Shared) (y : Int) : Value → Shared → Prop
  | mk (t : Tok) (h' : Heap) (tk' : Nat) : Fr h₀ L h' m → News h₀ L h' news → IntEnd h₀ L m news s y (.int y t) { s with heap := h', toks := tk' }
theorem look4 {a b c d : Str} {u v w x : Value} : (fun y => [(a, u), (b, v), (c, w), (d, x)].lookup y) = fun y => if y = a then some u else if y = b then some v else if y = c then some w else if y = d then some x else none := by
  funext y
  simp only [List.lookup, beq_iff_eq]
  repeat' split
  all_goals first | rfl | (simp_all; done)
theorem TextEnd.of {y z : Str} {t : Tok} {h' : Heap} {tk' : Nat} (e : z = y) (F : Fr h₀ L h' m) (N : News h₀ L h' news) : TextEnd h₀ L m news s y (.str z t) { s with heap := h', toks := tk' } := by subst e; exact .mk _ _ _ F N
theorem IntEnd.of {y z : Int} {t : Tok} {h' : Heap} {tk' : Nat} (e : z = y) (F : Fr h₀ L h' m) (N : News h₀ L h' news) : IntEnd h₀ L m news s y (.int z t) { s with heap := h', toks := tk' } := by subst e; exact .mk _ _ _ F N
theorem val_join (y : Str) (_F : Fr h₀ L s.heap m) (_N : News h₀ L s.heap news) (h : wpAny M A (eval e env) (TextEnd h₀ L m news s y) E s)
    (k : ∀ t h' tk', Fr h₀ L h' m → News h₀ L h' news → Q (.str y t) { s with heap := h', toks := tk' }) : wpAny M A (eval e env) Q E s :=
  wpAny_mono h (fun v s' hv => by cases hv with | mk t h' tk' F N => exact k t h' tk' F N) fun _ _ x => x
inductive TupEnd (h₀ : Heap) (L : Addr) (m : Str → Option Value) (news : List (Addr × Obj)) (s : Shared) (i j : Int) : Value → Shared → Prop
  | mk (a : Addr) (t1 t2 : Tok) (h' : Heap) (tk' : Nat) : Fr h₀ L h' m → News h₀ L h' ((a, tupObj [.int i t1, .int j t2]) :: news) → TupEnd h₀ L m news s i j (.ref a) { s with heap := h', toks := tk' }
theorem TupEnd.of {i j i' j' : Int} {a : Addr} {t1 t2 : Tok} {h' : Heap} {tk' : Nat} (e1 : i' = i) (e2 : j' = j) (F : Fr h₀ L h' m) (N : News h₀ L h' ((a, tupObj [.int i' t1, .int j' t2]) :: news)) : TupEnd h₀ L m news s i j (.ref a) { s with heap := h', toks := tk' } := by subst e1 e2; exact .mk _ _ _ _ _ F N
theorem tup_join (i j : Int) (_F : Fr h₀ L s.heap m) (_N : News h₀ L s.heap news) (h : wpAny M A (eval e env) (TupEnd h₀ L m news s i j) E s)
    (k : ∀ a t1 t2 h' tk', Fr h₀ L h' m → News h₀ L h' ((a, tupObj [.int i t1, .int j t2]) :: news) → Q (.ref a) { s with heap := h', toks := tk' }) : wpAny M A (eval e env) Q E s :=
  wpAny_mono h (fun v s' hv => by cases hv with | mk a t1 t2 h' tk' F N => exact k a t1 t2 h' tk' F N) fun _ _ x => x
theorem int_join (y : Int) (_F : Fr h₀ L s.heap m) (_N : News h₀ L s.heap news) (h : wpAny M A (eval e env) (IntEnd h₀ L m news s y) E s)
    (k : ∀ t h' tk', Fr h₀ L h' m → News h₀ L h' news → Q (.int y t) { s with heap := h', toks := tk' }) : wpAny M A (eval e env) Q E s :=
  wpAny_mono h (fun v s' hv => by cases hv with | mk t h' tk' F N => exact k t h' tk' F N) fun _ _ x => x
end
section
variable {w : World} {dp un : Nat} {fr : Option (List Env)} {gd : Option (List Code)} {s : Shared} {Q E : Value → Shared → Prop} {loose : List Str} {mean : ExcName → Option Value} {mg mb : Str → Option Value} {h₀ : Heap} {L : Addr} {m : Str → Option Value} {own T : List (Addr × Obj)}
  (F : Fr h₀ L s.heap m) (N : News h₀ L s.heap (own ++ T)) (X : (hd.heap_1 w.params).In h₀) (Tp : Top topProg loose mean mg mb h₀) (HT : TabL T) (hoff : ∀ p ∈ own, ∀ q ∈ T, p.1 ≠ q.1) {q1 q2 q3 q4 tu wh : Addr} {p : List Nat} {col : Nat} {tx tc : Tok} {vs : List Value} (hx : p.length ≤ 11)
include F N X Tp HT hoff hx
set_option maxHeartbeats 8000000 in
theorem agrees_ok (h1 : Prg w loose mean mg mb (hideAll s.heap (T.map (·.1))) q1 (opnC 47) clo1) (h2 : Prg w loose mean mg mb (hideAll s.heap (T.map (·.1))) q2 (opnC 47) (cloR 47)) (h3 : Prg w loose mean mg mb (hideAll s.heap (T.map (·.1))) q3 (opnC 46) (cloR 46)) (h4 : Prg w loose mean mg mb (hideAll s.heap (T.map (·.1))) q4 opnN cloN)
    (htu : IsTup (hideAll s.heap (T.map (·.1))) tu #[.ref q1, .ref q2, .ref q3, .ref q4]) (hwh : (hideAll s.heap (T.map (·.1))).IsList wh vs.toArray) (hvs : StrsAre vs ((pcs p).map S)) (hcol : col ≤ p.length) (hpo : ∀ c ∈ p, c < 1114112) (hun : un + 100 < cLine) (hdp : dp + 12 < recursionLimit)
    (ret : ∀ T' h' tk', TabL T' → Tle T T' → Fr h₀ L h' m → News h₀ L h' (own ++ T') → (∀ p ∈ own, ∀ q ∈ T', p.1 ≠ q.1) → Q (.bool true) { s with heap := h', toks := tk' }) :
    wpAny (model PR w) (Ar dp fr gd un) (call (.ref 259) [.str (S p) tx, .int (col : Nat) tc, .ref tu, .ref wh]) Q E s := by
  have hxl : (S p).length ≤ 64 := by rw [S_len]; omega
  k_dflt (refine' enterT F N X Tp hoff ?k6 ?k7 ?k8 ?k9 ?kB ?_ ?c2 ?c3 ?c4 ?c5; (case k6 => k_is); (case k7 => k_is); (case k8 => (dsimp only; omega)); (case k9 => exact BindsTo.of_eq rfl); (case c5 => decide); (case kB => exact locs rfl); (case c2 => exact rfl); (case c3 => exact rfl); (case c4 => exact rfl); k_whole)
  clear F N X Tp hoff
  intro L' h₁ X Tp back _ F9 N'
  have F' : Fr _ L' h₁ (fun y => [(Str.ofString "whole", Value.ref wh), (Str.ofString "programs", .ref tu), (Str.ofString "col", .int (col : Nat) tc), (Str.ofString "path", .str (S p) tx)].lookup y) := F9
  rw [look4] at F'
  clear F9
  (repeat' (first | (k_unfold; (try dsimp only)) | ((((((((((fail_if_success (with_reducible show wpAny _ _ (exec (Stmt.While _ _ _ _) _) _ _ _)); (fail_if_success (with_reducible show wpAny _ _ (exec (Stmt.For _ _ _ _ _) _) _ _ _)))); (fail_if_success (with_reducible show InvEndN _ _ _ _ _ _ _)); (fail_if_success (with_reducible show wpAny _ _ (binaryOp Operator.Mult (Value.ref _) _) _ _ _)); (fail_if_success (with_reducible show wpAny _ _ (binaryOp Operator.Add (Value.ref _) _) _ _ _)); (fail_if_success (with_reducible show wpAny _ _ (subscriptTail _ _ (Value.ref _) _) _ _ _)); (fail_if_success (with_reducible show wpAny _ _ (call (Value.builtin "list.pop") _) _ _ _)); (fail_if_success (with_reducible show wpAny _ _ (call (Value.builtin _) [Value.str _ _, Value.ref _]) _ _ _)))); (fail_if_success (with_reducible show wpAny _ _ (call (Value.ref _) (List.cons (Value.ref _) _)) _ _ _)); (fail_if_success (with_reducible show wpAny _ _ (call (Value.ref _) [Value.str _ _, Value.ref _]) _ _ _)))); (fail_if_success (with_reducible show wpAny _ _ (eval (Expr.BoolOp _ _ _) _) _ _ _)); (fail_if_success (with_reducible show wpAny _ _ (eval (Expr.IfExp _ _ _ _) _) _ _ _)); (fail_if_success (with_reducible show wpAny _ _ (compareOp _ (Value.ref _) (Value.ref _)) _ _ _)))); (first | walk1 | (dsimp only; walk1)))))
  rw [sl_to p (by omega : (0 : Int) ≤ (col : Nat)), Int.toNat_natCast] at *
  rename Fr _ _ _ _ => F'
  rename News _ _ _ _ => N'
  refine law_span_ok (own := []) F' N' X Tp HT (fun _ h => nomatch h) hxl (good1 47) h1 (by omega) (by dsimp only [Around.deeper, Around.in1, Around.mark]; omega) ?_
  clear F' N'
  intro a1 t1 t2 T₁ h9 tk9 HT₁ le₁ F' N' off'
  rw [S_cs, span_slash] at N'
  have hbl : (p.take col).length = col := by simp; omega
  generalize hb : p.take col = b at *
  have hbb : (if lst 47 b = 0 then (0, 0) else (lst 47 b - 1, lst 47 b)).2 = behL b := by unfold behL; split <;> simp_all
  rw [hbb] at N'
  (repeat' (first | (k_unfold; (try dsimp only)) | ((((((((((fail_if_success (with_reducible show wpAny _ _ (exec (Stmt.While _ _ _ _) _) _ _ _)); (fail_if_success (with_reducible show wpAny _ _ (exec (Stmt.For _ _ _ _ _) _) _ _ _)))); (fail_if_success (with_reducible show InvEndN _ _ _ _ _ _ _)); (fail_if_success (with_reducible show wpAny _ _ (binaryOp Operator.Mult (Value.ref _) _) _ _ _)); (fail_if_success (with_reducible show wpAny _ _ (binaryOp Operator.Add (Value.ref _) _) _ _ _)); (fail_if_success (with_reducible show wpAny _ _ (subscriptTail _ _ (Value.ref _) _) _ _ _)); (fail_if_success (with_reducible show wpAny _ _ (call (Value.builtin "list.pop") _) _ _ _)); (fail_if_success (with_reducible show wpAny _ _ (call (Value.builtin _) [Value.str _ _, Value.ref _]) _ _ _)))); (fail_if_success (with_reducible show wpAny _ _ (call (Value.ref _) (List.cons (Value.ref _) _)) _ _ _)); (fail_if_success (with_reducible show wpAny _ _ (call (Value.ref _) [Value.str _ _, Value.ref _]) _ _ _)))); (fail_if_success (with_reducible show wpAny _ _ (eval (Expr.BoolOp _ _ _) _) _ _ _)); (fail_if_success (with_reducible show wpAny _ _ (eval (Expr.IfExp _ _ _ _) _) _ _ _)); (fail_if_success (with_reducible show wpAny _ _ (compareOp _ (Value.ref _) (Value.ref _)) _ _ _)))); (first | walk1 | (dsimp only; walk1)))))
  rename Fr _ _ _ _ => F'
  rename News _ _ _ _ => N'
  refine item_tupleT (l := [_, _]) ⟨_, (N' _ (.head _)).1, rfl, _, rfl⟩ (by decide) (by decide) (seqIndex_nn (by decide) (by simp)) rfl ?_
  have N₁ : News _ L' _ T₁ := fun p hp => N' p (List.mem_cons_of_mem _ hp)
  clear N' off'
  rename News _ _ _ _ => N'
  (repeat' (first | (k_unfold; (try dsimp only)) | ((((((((((fail_if_success (with_reducible show wpAny _ _ (exec (Stmt.While _ _ _ _) _) _ _ _)); (fail_if_success (with_reducible show wpAny _ _ (exec (Stmt.For _ _ _ _ _) _) _ _ _)))); (fail_if_success (with_reducible show InvEndN _ _ _ _ _ _ _)); (fail_if_success (with_reducible show wpAny _ _ (binaryOp Operator.Mult (Value.ref _) _) _ _ _)); (fail_if_success (with_reducible show wpAny _ _ (binaryOp Operator.Add (Value.ref _) _) _ _ _)); (fail_if_success (with_reducible show wpAny _ _ (subscriptTail _ _ (Value.ref _) _) _ _ _)); (fail_if_success (with_reducible show wpAny _ _ (call (Value.builtin "list.pop") _) _ _ _)); (fail_if_success (with_reducible show wpAny _ _ (call (Value.builtin _) [Value.str _ _, Value.ref _]) _ _ _)))); (fail_if_success (with_reducible show wpAny _ _ (call (Value.ref _) (List.cons (Value.ref _) _)) _ _ _)); (fail_if_success (with_reducible show wpAny _ _ (call (Value.ref _) [Value.str _ _, Value.ref _]) _ _ _)))); (fail_if_success (with_reducible show wpAny _ _ (eval (Expr.BoolOp _ _ _) _) _ _ _)); (fail_if_success (with_reducible show wpAny _ _ (eval (Expr.IfExp _ _ _ _) _) _ _ _)); (fail_if_success (with_reducible show wpAny _ _ (compareOp _ (Value.ref _) (Value.ref _)) _ _ _)))); (first | walk1 | (dsimp only; walk1)))))
  rename Fr _ _ _ _ => F'
  rename News _ _ _ _ => N'
  have hbl2 : (S b).length ≤ 64 := by rw [S_len]; omega
  have hbeh : behL b ≤ b.length := (lst_spec 47 b).1
  refine law_span_ok (own := []) F' N' X Tp HT₁ (fun _ h => nomatch h) hbl2 (goodR 47) h2 (by omega) (by dsimp only [Around.deeper, Around.in1, Around.mark]; omega) ?_
  clear F' N'
  intro a1 t1 t2 T₂ h9 tk9 HT₂ le₂ F' N' off'
  rw [S_cs, show behL b = lst 47 b from rfl, span_run] at N'
  have haa : (if lst 47 b = 0 then (0, 0) else (bak 47 b (lst 47 b), lst 47 b)).1 = ahdL b := by unfold ahdL; split <;> simp_all
  rw [haa] at N'
  (repeat' (first | (k_unfold; (try dsimp only)) | ((((((((((fail_if_success (with_reducible show wpAny _ _ (exec (Stmt.While _ _ _ _) _) _ _ _)); (fail_if_success (with_reducible show wpAny _ _ (exec (Stmt.For _ _ _ _ _) _) _ _ _)))); (fail_if_success (with_reducible show InvEndN _ _ _ _ _ _ _)); (fail_if_success (with_reducible show wpAny _ _ (binaryOp Operator.Mult (Value.ref _) _) _ _ _)); (fail_if_success (with_reducible show wpAny _ _ (binaryOp Operator.Add (Value.ref _) _) _ _ _)); (fail_if_success (with_reducible show wpAny _ _ (subscriptTail _ _ (Value.ref _) _) _ _ _)); (fail_if_success (with_reducible show wpAny _ _ (call (Value.builtin "list.pop") _) _ _ _)); (fail_if_success (with_reducible show wpAny _ _ (call (Value.builtin _) [Value.str _ _, Value.ref _]) _ _ _)))); (fail_if_success (with_reducible show wpAny _ _ (call (Value.ref _) (List.cons (Value.ref _) _)) _ _ _)); (fail_if_success (with_reducible show wpAny _ _ (call (Value.ref _) [Value.str _ _, Value.ref _]) _ _ _)))); (fail_if_success (with_reducible show wpAny _ _ (eval (Expr.BoolOp _ _ _) _) _ _ _)); (fail_if_success (with_reducible show wpAny _ _ (eval (Expr.IfExp _ _ _ _) _) _ _ _)); (fail_if_success (with_reducible show wpAny _ _ (compareOp _ (Value.ref _) (Value.ref _)) _ _ _)))); (first | walk1 | (dsimp only; walk1)))))
  rename Fr _ _ _ _ => F'
  rename News _ _ _ _ => N'
  refine item_tupleT (l := [_, _]) ⟨_, (N' _ (.head _)).1, rfl, _, rfl⟩ (by decide) (by decide) (seqIndex_nn (by decide) (by simp)) rfl ?_
  have N₂ : News _ L' _ T₂ := fun p hp => N' p (List.mem_cons_of_mem _ hp)
  clear N' off'
  rename News _ _ _ _ => N'
  (repeat' (first | (k_unfold; (try dsimp only)) | ((((((((((fail_if_success (with_reducible show wpAny _ _ (exec (Stmt.While _ _ _ _) _) _ _ _)); (fail_if_success (with_reducible show wpAny _ _ (exec (Stmt.For _ _ _ _ _) _) _ _ _)))); (fail_if_success (with_reducible show InvEndN _ _ _ _ _ _ _)); (fail_if_success (with_reducible show wpAny _ _ (binaryOp Operator.Mult (Value.ref _) _) _ _ _)); (fail_if_success (with_reducible show wpAny _ _ (binaryOp Operator.Add (Value.ref _) _) _ _ _)); (fail_if_success (with_reducible show wpAny _ _ (subscriptTail _ _ (Value.ref _) _) _ _ _)); (fail_if_success (with_reducible show wpAny _ _ (call (Value.builtin "list.pop") _) _ _ _)); (fail_if_success (with_reducible show wpAny _ _ (call (Value.builtin _) [Value.str _ _, Value.ref _]) _ _ _)))); (fail_if_success (with_reducible show wpAny _ _ (call (Value.ref _) (List.cons (Value.ref _) _)) _ _ _)); (fail_if_success (with_reducible show wpAny _ _ (call (Value.ref _) [Value.str _ _, Value.ref _]) _ _ _)))); (fail_if_success (with_reducible show wpAny _ _ (eval (Expr.BoolOp _ _ _) _) _ _ _)); (fail_if_success (with_reducible show wpAny _ _ (eval (Expr.IfExp _ _ _ _) _) _ _ _)); (fail_if_success (with_reducible show wpAny _ _ (compareOp _ (Value.ref _) (Value.ref _)) _ _ _)))); (first | walk1 | (dsimp only; walk1)))))
  rename Fr _ _ _ _ => F'
  rename News _ _ _ _ => N'
  have hbo : ∀ c ∈ b, c < 1114112 := fun c hc => hpo c (List.mem_of_mem_take (hb ▸ hc))
  have hahd : ahdL b ≤ b.length := by unfold ahdL; split; omega; exact Nat.le_trans (bak_spec 47 b _ (lst_spec 47 b).1).1 (lst_spec 47 b).1
  refine' val_join (S (headL b)) ?fj ?nj ?g1 ?g2
  case fj => exact F'
  case nj => exact N'
  case g1 =>
    (repeat' (first | (k_unfold; (try dsimp only)) | ((((((((((fail_if_success (with_reducible show wpAny _ _ (exec (Stmt.While _ _ _ _) _) _ _ _)); (fail_if_success (with_reducible show wpAny _ _ (exec (Stmt.For _ _ _ _ _) _) _ _ _)))); (fail_if_success (with_reducible show InvEndN _ _ _ _ _ _ _)); (fail_if_success (with_reducible show wpAny _ _ (binaryOp Operator.Mult (Value.ref _) _) _ _ _)); (fail_if_success (with_reducible show wpAny _ _ (binaryOp Operator.Add (Value.ref _) _) _ _ _)); (fail_if_success (with_reducible show wpAny _ _ (subscriptTail _ _ (Value.ref _) _) _ _ _)); (fail_if_success (with_reducible show wpAny _ _ (call (Value.builtin "list.pop") _) _ _ _)); (fail_if_success (with_reducible show wpAny _ _ (call (Value.builtin _) [Value.str _ _, Value.ref _]) _ _ _)))); (fail_if_success (with_reducible show wpAny _ _ (call (Value.ref _) (List.cons (Value.ref _) _)) _ _ _)); (fail_if_success (with_reducible show wpAny _ _ (call (Value.ref _) [Value.str _ _, Value.ref _]) _ _ _)))); (fail_if_success (with_reducible show TextEnd _ _ _ _ _ _ _ _)); (fail_if_success (with_reducible show IntEnd _ _ _ _ _ _ _ _)); (fail_if_success (with_reducible show TupEnd _ _ _ _ _ _ _ _ _)))); (first | walk1 | (dsimp only; walk1)))))
    · rename ((Str.length _ : Nat) : Int) ≠ 0 => q
      refine TextEnd.of ?_ (by with_reducible assumption) (by with_reducible assumption)
      rw [sl_to b (by omega), Int.toNat_natCast] at q ⊢
      unfold headL
      rw [if_neg (fun z => q (by rw [z]; rfl))]
    · rename ((Str.length _ : Nat) : Int) = 0 => q
      refine TextEnd.of ?_ (by with_reducible assumption) (by with_reducible assumption)
      rw [sl_to b (by omega), Int.toNat_natCast] at q ⊢
      unfold headL
      rw [S_len, List.length_take] at q
      rw [if_pos (by omega)]
  case g2 =>
    clear F' N'
    intro t9 h9 tk9 F' N'
    (repeat' (first | (k_unfold; (try dsimp only)) | ((((((((((fail_if_success (with_reducible show wpAny _ _ (exec (Stmt.While _ _ _ _) _) _ _ _)); (fail_if_success (with_reducible show wpAny _ _ (exec (Stmt.For _ _ _ _ _) _) _ _ _)))); (fail_if_success (with_reducible show InvEndN _ _ _ _ _ _ _)); (fail_if_success (with_reducible show wpAny _ _ (binaryOp Operator.Mult (Value.ref _) _) _ _ _)); (fail_if_success (with_reducible show wpAny _ _ (binaryOp Operator.Add (Value.ref _) _) _ _ _)); (fail_if_success (with_reducible show wpAny _ _ (subscriptTail _ _ (Value.ref _) _) _ _ _)); (fail_if_success (with_reducible show wpAny _ _ (call (Value.builtin "list.pop") _) _ _ _)); (fail_if_success (with_reducible show wpAny _ _ (call (Value.builtin _) [Value.str _ _, Value.ref _]) _ _ _)))); (fail_if_success (with_reducible show wpAny _ _ (call (Value.ref _) (List.cons (Value.ref _) _)) _ _ _)); (fail_if_success (with_reducible show wpAny _ _ (call (Value.ref _) [Value.str _ _, Value.ref _]) _ _ _)))); (fail_if_success (with_reducible show wpAny _ _ (eval (Expr.IfExp _ _ _ _) _) _ _ _)); (fail_if_success (with_reducible show wpAny _ _ (compareOp _ (Value.ref _) (Value.ref _)) _ _ _)))); (first | walk1 | (dsimp only; walk1)))))
    rename Fr _ _ _ _ => F'
    rename News _ _ _ _ => N'
    rw [sl_from b (by omega : (0 : Int) ≤ (behL b : Nat)), Int.toNat_natCast] at *
    refine ne_same2 (N' _ (.tail _ (.head _))).1 (N' _ (.head _)).1 (okS fun c hc => hbo c (headL_sub hc)) (okS fun c hc => hbo c (List.mem_of_mem_drop hc)) (by dsimp only [Around.deeper, Around.in1, Around.mark]; omega) ?_
    have N₃ : News _ L' _ T₂ := fun p hp => N' p (List.mem_cons_of_mem _ (List.mem_cons_of_mem _ hp))
    clear N'
    rename News _ _ _ _ => N'
    (repeat' (first | (k_unfold; (try dsimp only)) | ((((((((((fail_if_success (with_reducible show wpAny _ _ (exec (Stmt.While _ _ _ _) _) _ _ _)); (fail_if_success (with_reducible show wpAny _ _ (exec (Stmt.For _ _ _ _ _) _) _ _ _)))); (fail_if_success (with_reducible show InvEndN _ _ _ _ _ _ _)); (fail_if_success (with_reducible show wpAny _ _ (binaryOp Operator.Mult (Value.ref _) _) _ _ _)); (fail_if_success (with_reducible show wpAny _ _ (binaryOp Operator.Add (Value.ref _) _) _ _ _)); (fail_if_success (with_reducible show wpAny _ _ (subscriptTail _ _ (Value.ref _) _) _ _ _)); (fail_if_success (with_reducible show wpAny _ _ (call (Value.builtin "list.pop") _) _ _ _)); (fail_if_success (with_reducible show wpAny _ _ (call (Value.builtin _) [Value.str _ _, Value.ref _]) _ _ _)))); (fail_if_success (with_reducible show wpAny _ _ (call (Value.ref _) (List.cons (Value.ref _) _)) _ _ _)); (fail_if_success (with_reducible show wpAny _ _ (call (Value.ref _) [Value.str _ _, Value.ref _]) _ _ _)))); (fail_if_success (with_reducible show wpAny _ _ (eval (Expr.IfExp _ _ _ _) _) _ _ _)); (fail_if_success (with_reducible show wpAny _ _ (compareOp _ (Value.ref _) (Value.ref _)) _ _ _)))); (first | walk1 | (dsimp only; walk1)))))
    all_goals (try rw [sl_from b (by omega : (0 : Int) ≤ (behL b : Nat)), Int.toNat_natCast] at *)
    all_goals first | (rename (_ != _) = true => q; simp at q; done) | skip
    rename Fr _ _ _ _ => F'
    rename News _ _ _ _ => N'
    refine law_span_ok (own := []) F' N' X Tp HT₂ (fun _ h => nomatch h) hbl2 (goodR 46) h3 (by omega) (by dsimp only [Around.deeper, Around.in1, Around.mark]; omega) ?_
    clear F' N'
    intro a1 t1 t2 T₃ h9 tk9 HT₃ le₃ F' N' off'
    rw [S_cs, span_runs 46 b col hbl.symm] at N'
    have hcut1 : behL b < (if lst 46 b = 0 then (0, 0) else (bak 46 b (lst 46 b), lst 46 b)).1 → (if lst 46 b = 0 then (0, 0) else (bak 46 b (lst 46 b), lst 46 b)).2 - 1 = cutL b ∧ 1 ≤ (if lst 46 b = 0 then (0, 0) else (bak 46 b (lst 46 b), lst 46 b)).2 := by
      unfold cutL
      split
      · intro h; simp at h
      · rename_i q; intro h; rw [if_pos ⟨q, h⟩]; exact ⟨rfl, by simp; omega⟩
    have hcut2 : ¬ behL b < (if lst 46 b = 0 then (0, 0) else (bak 46 b (lst 46 b), lst 46 b)).1 → b.length = cutL b := by
      unfold cutL
      split
      · rename_i q; intro _; rw [if_neg (by simp [q])]
      · intro h; rw [if_neg (fun z => h z.2)]
    have hcl : cutL b ≤ b.length := by
      have := (lst_spec 46 b).1
      unfold cutL; split <;> omega
    generalize (if lst 46 b = 0 then (0, 0) else (bak 46 b (lst 46 b), lst 46 b)).1 = d1 at *
    generalize (if lst 46 b = 0 then (0, 0) else (bak 46 b (lst 46 b), lst 46 b)).2 = d2 at *
    (repeat' (first | (k_unfold; (try dsimp only)) | ((((((((((fail_if_success (with_reducible show wpAny _ _ (exec (Stmt.While _ _ _ _) _) _ _ _)); (fail_if_success (with_reducible show wpAny _ _ (exec (Stmt.For _ _ _ _ _) _) _ _ _)))); (fail_if_success (with_reducible show InvEndN _ _ _ _ _ _ _)); (fail_if_success (with_reducible show wpAny _ _ (binaryOp Operator.Mult (Value.ref _) _) _ _ _)); (fail_if_success (with_reducible show wpAny _ _ (binaryOp Operator.Add (Value.ref _) _) _ _ _)); (fail_if_success (with_reducible show wpAny _ _ (subscriptTail _ _ (Value.ref _) _) _ _ _)); (fail_if_success (with_reducible show wpAny _ _ (call (Value.builtin "list.pop") _) _ _ _)); (fail_if_success (with_reducible show wpAny _ _ (call (Value.builtin _) [Value.str _ _, Value.ref _]) _ _ _)))); (fail_if_success (with_reducible show wpAny _ _ (call (Value.ref _) (List.cons (Value.ref _) _)) _ _ _)); (fail_if_success (with_reducible show wpAny _ _ (call (Value.ref _) [Value.str _ _, Value.ref _]) _ _ _)))); (fail_if_success (with_reducible show wpAny _ _ (eval (Expr.BoolOp _ _ _) _) _ _ _)); (fail_if_success (with_reducible show wpAny _ _ (eval (Expr.IfExp _ _ _ _) _) _ _ _)); (fail_if_success (with_reducible show wpAny _ _ (compareOp _ (Value.ref _) (Value.ref _)) _ _ _)))); (first | walk1 | (dsimp only; walk1)))))
    rename Fr _ _ _ _ => F'
    rename News _ _ _ _ => N'
    have N₄ : News _ L' _ T₃ := fun p hp => N' p (List.mem_cons_of_mem _ hp)
    clear N' off'
    rename News _ _ _ _ => N'
    refine' int_join (cutL b : Nat) ?fj2 ?nj2 ?g3 ?g4
    case fj2 => exact F'
    case nj2 => exact N'
    case g3 =>
      (repeat' (first | (k_unfold; (try dsimp only)) | ((((((((((fail_if_success (with_reducible show wpAny _ _ (exec (Stmt.While _ _ _ _) _) _ _ _)); (fail_if_success (with_reducible show wpAny _ _ (exec (Stmt.For _ _ _ _ _) _) _ _ _)))); (fail_if_success (with_reducible show InvEndN _ _ _ _ _ _ _)); (fail_if_success (with_reducible show wpAny _ _ (binaryOp Operator.Mult (Value.ref _) _) _ _ _)); (fail_if_success (with_reducible show wpAny _ _ (binaryOp Operator.Add (Value.ref _) _) _ _ _)); (fail_if_success (with_reducible show wpAny _ _ (subscriptTail _ _ (Value.ref _) _) _ _ _)); (fail_if_success (with_reducible show wpAny _ _ (call (Value.builtin "list.pop") _) _ _ _)); (fail_if_success (with_reducible show wpAny _ _ (call (Value.builtin _) [Value.str _ _, Value.ref _]) _ _ _)))); (fail_if_success (with_reducible show wpAny _ _ (call (Value.ref _) (List.cons (Value.ref _) _)) _ _ _)); (fail_if_success (with_reducible show wpAny _ _ (call (Value.ref _) [Value.str _ _, Value.ref _]) _ _ _)))); (fail_if_success (with_reducible show TextEnd _ _ _ _ _ _ _ _)); (fail_if_success (with_reducible show IntEnd _ _ _ _ _ _ _ _)); (fail_if_success (with_reducible show TupEnd _ _ _ _ _ _ _ _ _)))); (first | walk1 | (dsimp only; walk1)))))
      · refine IntEnd.of ?_ (by with_reducible assumption) (by with_reducible assumption)
        have := hcut1 (by omega)
        omega
      · refine IntEnd.of ?_ (by with_reducible assumption) (by with_reducible assumption)
        have := hcut2 (by omega)
        rw [S_len]; omega
    case g4 =>
      clear F' N' hcut1 hcut2
      intro t9 h9 tk9 F' N'
      (repeat' (first | (k_unfold; (try dsimp only)) | ((((((((((fail_if_success (with_reducible show wpAny _ _ (exec (Stmt.While _ _ _ _) _) _ _ _)); (fail_if_success (with_reducible show wpAny _ _ (exec (Stmt.For _ _ _ _ _) _) _ _ _)))); (fail_if_success (with_reducible show InvEndN _ _ _ _ _ _ _)); (fail_if_success (with_reducible show wpAny _ _ (binaryOp Operator.Mult (Value.ref _) _) _ _ _)); (fail_if_success (with_reducible show wpAny _ _ (binaryOp Operator.Add (Value.ref _) _) _ _ _)); (fail_if_success (with_reducible show wpAny _ _ (subscriptTail _ _ (Value.ref _) _) _ _ _)); (fail_if_success (with_reducible show wpAny _ _ (call (Value.builtin "list.pop") _) _ _ _)); (fail_if_success (with_reducible show wpAny _ _ (call (Value.builtin _) [Value.str _ _, Value.ref _]) _ _ _)))); (fail_if_success (with_reducible show wpAny _ _ (call (Value.ref _) (List.cons (Value.ref _) _)) _ _ _)); (fail_if_success (with_reducible show wpAny _ _ (call (Value.ref _) [Value.str _ _, Value.ref _]) _ _ _)))); (fail_if_success (with_reducible show wpAny _ _ (eval (Expr.IfExp _ _ _ _) _) _ _ _)); (fail_if_success (with_reducible show wpAny _ _ (compareOp _ (Value.ref _) (Value.ref _)) _ _ _)))); (first | walk1 | (dsimp only; walk1)))))
      rename Fr _ _ _ _ => F'
      rename News _ _ _ _ => N'
      rw [sl_to b (by omega : (0 : Int) ≤ (cutL b : Nat)), sl_from b (by omega : (0 : Int) ≤ (cutL b : Nat)), Int.toNat_natCast] at *
      refine ne_same2 (N' _ (.tail _ (.head _))).1 (N' _ (.head _)).1 (okS fun c hc => hbo c (List.mem_of_mem_take hc)) (okS fun c hc => hbo c (List.mem_of_mem_drop hc)) (by dsimp only [Around.deeper, Around.in1, Around.mark]; omega) ?_
      have N₅ : News _ L' _ T₃ := fun p hp => N' p (.tail _ (.tail _ hp))
      clear N'
      rename News _ _ _ _ => N'
      (repeat' (first | (k_unfold; (try dsimp only)) | ((((((((((fail_if_success (with_reducible show wpAny _ _ (exec (Stmt.While _ _ _ _) _) _ _ _)); (fail_if_success (with_reducible show wpAny _ _ (exec (Stmt.For _ _ _ _ _) _) _ _ _)))); (fail_if_success (with_reducible show InvEndN _ _ _ _ _ _ _)); (fail_if_success (with_reducible show wpAny _ _ (binaryOp Operator.Mult (Value.ref _) _) _ _ _)); (fail_if_success (with_reducible show wpAny _ _ (binaryOp Operator.Add (Value.ref _) _) _ _ _)); (fail_if_success (with_reducible show wpAny _ _ (subscriptTail _ _ (Value.ref _) _) _ _ _)); (fail_if_success (with_reducible show wpAny _ _ (call (Value.builtin "list.pop") _) _ _ _)); (fail_if_success (with_reducible show wpAny _ _ (call (Value.builtin _) [Value.str _ _, Value.ref _]) _ _ _)))); (fail_if_success (with_reducible show wpAny _ _ (call (Value.ref _) (List.cons (Value.ref _) _)) _ _ _)); (fail_if_success (with_reducible show wpAny _ _ (call (Value.ref _) [Value.str _ _, Value.ref _]) _ _ _)))); (fail_if_success (with_reducible show wpAny _ _ (eval (Expr.IfExp _ _ _ _) _) _ _ _)); (fail_if_success (with_reducible show wpAny _ _ (compareOp _ (Value.ref _) (Value.ref _)) _ _ _)))); (first | walk1 | (dsimp only; walk1)))))
      rename Fr _ _ _ _ => F'
      rename News _ _ _ _ => N'
      refine names_ok (own := []) F' N' X Tp HT₃ (fun _ h => nomatch h) hbl2 goodN (h4.keeps (hide_stays F' N')) (by dsimp only [Around.deeper, Around.in1, Around.mark]; omega) ?_
      clear F' N'
      intro a1 l5 t1 vs5 n5 T₄ h9 tk9 hvs5 HT₄ le₄ F' N' off'
      rw [namesS_law] at hvs5 N'
      dsimp only at hvs5 N'
      (repeat' (first | (k_unfold; (try dsimp only)) | ((((((((((fail_if_success (with_reducible show wpAny _ _ (exec (Stmt.While _ _ _ _) _) _ _ _)); (fail_if_success (with_reducible show wpAny _ _ (exec (Stmt.For _ _ _ _ _) _) _ _ _)))); (fail_if_success (with_reducible show InvEndN _ _ _ _ _ _ _)); (fail_if_success (with_reducible show wpAny _ _ (binaryOp Operator.Mult (Value.ref _) _) _ _ _)); (fail_if_success (with_reducible show wpAny _ _ (binaryOp Operator.Add (Value.ref _) _) _ _ _)); (fail_if_success (with_reducible show wpAny _ _ (subscriptTail _ _ (Value.ref _) _) _ _ _)); (fail_if_success (with_reducible show wpAny _ _ (call (Value.builtin "list.pop") _) _ _ _)); (fail_if_success (with_reducible show wpAny _ _ (call (Value.builtin _) [Value.str _ _, Value.ref _]) _ _ _)))); (fail_if_success (with_reducible show wpAny _ _ (call (Value.ref _) (List.cons (Value.ref _) _)) _ _ _)); (fail_if_success (with_reducible show wpAny _ _ (call (Value.ref _) [Value.str _ _, Value.ref _]) _ _ _)))); (fail_if_success (with_reducible show wpAny _ _ (eval (Expr.IfExp _ _ _ _) _) _ _ _)); (fail_if_success (with_reducible show wpAny _ _ (compareOp _ (Value.ref _) (Value.ref _)) _ _ _)))); (first | walk1 | (dsimp only; walk1)))))
      rename Fr _ _ _ _ => F'
      rename News _ _ _ _ => N'
      have N₆ : News _ L' _ ((l5, W.listOf vs5.toArray n5) :: T₄) := fun p hp => N' p (.tail _ hp)
      have off5 : ∀ p ∈ [(l5, W.listOf vs5.toArray n5)], ∀ q ∈ T₄, p.1 ≠ q.1 := fun p hp q hq => off' p (.tail _ hp) q hq
      clear N' off'
      rename News _ _ _ _ => N'
      refine' val_join (rootS (S b)) ?fj3 ?nj3 ?g5 ?g6
      case fj3 => exact F'
      case nj3 => exact N'
      case g5 =>
        (repeat' (first | (k_unfold; (try dsimp only)) | ((((((((((fail_if_success (with_reducible show wpAny _ _ (exec (Stmt.While _ _ _ _) _) _ _ _)); (fail_if_success (with_reducible show wpAny _ _ (exec (Stmt.For _ _ _ _ _) _) _ _ _)))); (fail_if_success (with_reducible show InvEndN _ _ _ _ _ _ _)); (fail_if_success (with_reducible show wpAny _ _ (binaryOp Operator.Mult (Value.ref _) _) _ _ _)); (fail_if_success (with_reducible show wpAny _ _ (binaryOp Operator.Add (Value.ref _) _) _ _ _)); (fail_if_success (with_reducible show wpAny _ _ (subscriptTail _ _ (Value.ref _) _) _ _ _)); (fail_if_success (with_reducible show wpAny _ _ (call (Value.builtin "list.pop") _) _ _ _)); (fail_if_success (with_reducible show wpAny _ _ (call (Value.builtin _) [Value.str _ _, Value.ref _]) _ _ _)))); (fail_if_success (with_reducible show wpAny _ _ (call (Value.ref _) (List.cons (Value.ref _) _)) _ _ _)); (fail_if_success (with_reducible show wpAny _ _ (call (Value.ref _) [Value.str _ _, Value.ref _]) _ _ _)))); (fail_if_success (with_reducible show TextEnd _ _ _ _ _ _ _ _)); (fail_if_success (with_reducible show IntEnd _ _ _ _ _ _ _ _)); (fail_if_success (with_reducible show TupEnd _ _ _ _ _ _ _ _ _)))); (first | walk1 | (dsimp only; walk1)))))
        all_goals refine TextEnd.of ?_ (by with_reducible assumption) (by with_reducible assumption)
        · rw [lead_root, if_pos (by omega)]
        · rw [lead_root, if_neg (by omega), if_neg (by omega)]
        · rw [lead_root, if_neg (by omega), if_pos (by omega)]
      case g6 =>
        clear F' N'
        intro t9 h9 tk9 F' N'
        have hrl : (rootS (S b)).length ≤ 64 := Nat.le_trans (root_len b) (by decide)
        (repeat' (first | (k_unfold; (try dsimp only)) | ((((((((((fail_if_success (with_reducible show wpAny _ _ (exec (Stmt.While _ _ _ _) _) _ _ _)); (fail_if_success (with_reducible show wpAny _ _ (exec (Stmt.For _ _ _ _ _) _) _ _ _)))); (fail_if_success (with_reducible show InvEndN _ _ _ _ _ _ _)); (fail_if_success (with_reducible show wpAny _ _ (binaryOp Operator.Mult (Value.ref _) _) _ _ _)); (fail_if_success (with_reducible show wpAny _ _ (binaryOp Operator.Add (Value.ref _) _) _ _ _)); (fail_if_success (with_reducible show wpAny _ _ (subscriptTail _ _ (Value.ref _) _) _ _ _)); (fail_if_success (with_reducible show wpAny _ _ (call (Value.builtin "list.pop") _) _ _ _)); (fail_if_success (with_reducible show wpAny _ _ (call (Value.builtin _) [Value.str _ _, Value.ref _]) _ _ _)))); (fail_if_success (with_reducible show wpAny _ _ (call (Value.ref _) (List.cons (Value.ref _) _)) _ _ _)); (fail_if_success (with_reducible show wpAny _ _ (call (Value.ref _) [Value.str _ _, Value.ref _]) _ _ _)))); (fail_if_success (with_reducible show wpAny _ _ (eval (Expr.BoolOp _ _ _) _) _ _ _)); (fail_if_success (with_reducible show wpAny _ _ (eval (Expr.IfExp _ _ _ _) _) _ _ _)); (fail_if_success (with_reducible show wpAny _ _ (compareOp _ (Value.ref _) (Value.ref _)) _ _ _)))); (first | walk1 | (dsimp only; walk1)))))
        all_goals first | (rename (_ != _) = true => q; simp at q; done) | skip
        rename Fr _ _ _ _ => F'
        rename News _ _ _ _ => N'
        refine ne_same3 (N' _ (.tail _ (.head _))).1 (N' _ (.head _)).1 (by decide +kernel) (okRoot b) (okRest hbo) (by dsimp only [Around.deeper, Around.in1, Around.mark]; omega) ?_
        have N₇ : News _ L' _ ((l5, W.listOf vs5.toArray n5) :: T₄) := fun p hp => N' p (.tail _ (.tail _ hp))
        clear N'
        rename News _ _ _ _ => N'
        (repeat' (first | (k_unfold; (try dsimp only)) | ((((((((((fail_if_success (with_reducible show wpAny _ _ (exec (Stmt.While _ _ _ _) _) _ _ _)); (fail_if_success (with_reducible show wpAny _ _ (exec (Stmt.For _ _ _ _ _) _) _ _ _)))); (fail_if_success (with_reducible show InvEndN _ _ _ _ _ _ _)); (fail_if_success (with_reducible show wpAny _ _ (binaryOp Operator.Mult (Value.ref _) _) _ _ _)); (fail_if_success (with_reducible show wpAny _ _ (binaryOp Operator.Add (Value.ref _) _) _ _ _)); (fail_if_success (with_reducible show wpAny _ _ (subscriptTail _ _ (Value.ref _) _) _ _ _)); (fail_if_success (with_reducible show wpAny _ _ (call (Value.builtin "list.pop") _) _ _ _)); (fail_if_success (with_reducible show wpAny _ _ (call (Value.builtin _) [Value.str _ _, Value.ref _]) _ _ _)))); (fail_if_success (with_reducible show wpAny _ _ (call (Value.ref _) (List.cons (Value.ref _) _)) _ _ _)); (fail_if_success (with_reducible show wpAny _ _ (call (Value.ref _) [Value.str _ _, Value.ref _]) _ _ _)))); (fail_if_success (with_reducible show wpAny _ _ (eval (Expr.BoolOp _ _ _) _) _ _ _)); (fail_if_success (with_reducible show wpAny _ _ (eval (Expr.IfExp _ _ _ _) _) _ _ _)); (fail_if_success (with_reducible show wpAny _ _ (compareOp _ (Value.ref _) (Value.ref _)) _ _ _)))); (first | walk1 | (dsimp only; walk1)))))
        rename Fr _ _ _ _ => F'
        rename News _ _ _ _ => N'
        refine' val_join (normS (S b)) ?fj4 ?nj4 ?g7 ?g8
        case fj4 => exact F'
        case nj4 => exact N'
        case g7 =>
          (repeat' (first | (k_unfold; (try dsimp only)) | ((((((((((fail_if_success (with_reducible show wpAny _ _ (exec (Stmt.While _ _ _ _) _) _ _ _)); (fail_if_success (with_reducible show wpAny _ _ (exec (Stmt.For _ _ _ _ _) _) _ _ _)))); (fail_if_success (with_reducible show InvEndN _ _ _ _ _ _ _)); (fail_if_success (with_reducible show wpAny _ _ (binaryOp Operator.Mult (Value.ref _) _) _ _ _)); (fail_if_success (with_reducible show wpAny _ _ (binaryOp Operator.Add (Value.ref _) _) _ _ _)); (fail_if_success (with_reducible show wpAny _ _ (subscriptTail _ _ (Value.ref _) _) _ _ _)); (fail_if_success (with_reducible show wpAny _ _ (call (Value.builtin "list.pop") _) _ _ _)); (fail_if_success (with_reducible show wpAny _ _ (call (Value.builtin _) [Value.str _ _, Value.ref _]) _ _ _)))); (fail_if_success (with_reducible show wpAny _ _ (call (Value.ref _) (List.cons (Value.ref _) _)) _ _ _)); (fail_if_success (with_reducible show wpAny _ _ (call (Value.ref _) [Value.str _ _, Value.ref _]) _ _ _)))); (fail_if_success (with_reducible show TextEnd _ _ _ _ _ _ _ _)); (fail_if_success (with_reducible show IntEnd _ _ _ _ _ _ _ _)); (fail_if_success (with_reducible show TupEnd _ _ _ _ _ _ _ _ _)))); (first | walk1 | (dsimp only; walk1)))))
          rename Fr _ _ _ _ => F'
          rename News _ _ _ _ => N'
          have hpl := pcs_len b
          have hn1 : ((pcs b).reverse.map S).length ≤ 64 := by rw [List.length_map, List.length_reverse]; omega
          have hn2 : ∀ z ∈ (pcs b).reverse.map S, z.length ≤ 64 := fun z hz => Nat.le_trans (pcs_sub b z (by rw [← List.mem_reverse, ← List.map_reverse]; exact hz)) (by omega)
          have hsl := straight_len hn2 hn1 hrl
          refine straight_ok F' N' X Tp ⟨_, (N' _ (.head _)).1, rfl, _, rfl⟩ hvs5 hrl hn1 hn2 (by dsimp only [Around.deeper, Around.in1, Around.mark]; omega) ?_
          clear F' N'
          intro t h tk F' N'
          have e9 := normS_law b
          generalize straightS (rootS (S b)) ((pcs b).reverse.map S) = sv at *
          (repeat' (first | (k_unfold; (try dsimp only)) | ((((((((((fail_if_success (with_reducible show wpAny _ _ (exec (Stmt.While _ _ _ _) _) _ _ _)); (fail_if_success (with_reducible show wpAny _ _ (exec (Stmt.For _ _ _ _ _) _) _ _ _)))); (fail_if_success (with_reducible show InvEndN _ _ _ _ _ _ _)); (fail_if_success (with_reducible show wpAny _ _ (binaryOp Operator.Mult (Value.ref _) _) _ _ _)); (fail_if_success (with_reducible show wpAny _ _ (binaryOp Operator.Add (Value.ref _) _) _ _ _)); (fail_if_success (with_reducible show wpAny _ _ (subscriptTail _ _ (Value.ref _) _) _ _ _)); (fail_if_success (with_reducible show wpAny _ _ (call (Value.builtin "list.pop") _) _ _ _)); (fail_if_success (with_reducible show wpAny _ _ (call (Value.builtin _) [Value.str _ _, Value.ref _]) _ _ _)))); (fail_if_success (with_reducible show wpAny _ _ (call (Value.ref _) (List.cons (Value.ref _) _)) _ _ _)); (fail_if_success (with_reducible show wpAny _ _ (call (Value.ref _) [Value.str _ _, Value.ref _]) _ _ _)))); (fail_if_success (with_reducible show TextEnd _ _ _ _ _ _ _ _)); (fail_if_success (with_reducible show IntEnd _ _ _ _ _ _ _ _)); (fail_if_success (with_reducible show TupEnd _ _ _ _ _ _ _ _ _)))); (first | walk1 | (dsimp only; walk1)))))
          · refine TextEnd.of ?_ (by with_reducible assumption) (by with_reducible assumption)
            rename ((Str.length _ : Nat) : Int) ≠ 0 => q
            rw [e9, if_neg (fun z => q (by rw [z]; rfl))]
          · refine TextEnd.of ?_ (by with_reducible assumption) (by with_reducible assumption)
            rename ((Str.length _ : Nat) : Int) = 0 => q
            rw [e9, if_pos (len_zero.mp (by omega))]
        case g8 =>
          clear F' N'
          intro t9 h9 tk9 F' N'
          (repeat' (first | (k_unfold; (try dsimp only)) | ((((((((((fail_if_success (with_reducible show wpAny _ _ (exec (Stmt.While _ _ _ _) _) _ _ _)); (fail_if_success (with_reducible show wpAny _ _ (exec (Stmt.For _ _ _ _ _) _) _ _ _)))); (fail_if_success (with_reducible show InvEndN _ _ _ _ _ _ _)); (fail_if_success (with_reducible show wpAny _ _ (binaryOp Operator.Mult (Value.ref _) _) _ _ _)); (fail_if_success (with_reducible show wpAny _ _ (binaryOp Operator.Add (Value.ref _) _) _ _ _)); (fail_if_success (with_reducible show wpAny _ _ (subscriptTail _ _ (Value.ref _) _) _ _ _)); (fail_if_success (with_reducible show wpAny _ _ (call (Value.builtin "list.pop") _) _ _ _)); (fail_if_success (with_reducible show wpAny _ _ (call (Value.builtin _) [Value.str _ _, Value.ref _]) _ _ _)))); (fail_if_success (with_reducible show wpAny _ _ (call (Value.ref _) (List.cons (Value.ref _) _)) _ _ _)); (fail_if_success (with_reducible show wpAny _ _ (call (Value.ref _) [Value.str _ _, Value.ref _]) _ _ _)))); (fail_if_success (with_reducible show wpAny _ _ (eval (Expr.BoolOp _ _ _) _) _ _ _)); (fail_if_success (with_reducible show wpAny _ _ (eval (Expr.IfExp _ _ _ _) _) _ _ _)); (fail_if_success (with_reducible show wpAny _ _ (compareOp _ (Value.ref _) (Value.ref _)) _ _ _)))); (first | walk1 | (dsimp only; walk1)))))
          all_goals first | (rename (normS _ != normS _) = true => q; exact absurd q (by simp); done) | skip
          rename Fr _ _ _ _ => F'
          rename News _ _ _ _ => N'
          refine' val_join (S (keptL p col)) ?fj5 ?nj5 ?g9 ?g10
          case fj5 => exact F'
          case nj5 => exact N'
          case g9 =>
            (repeat' (first | (k_unfold; (try dsimp only)) | ((((((((((fail_if_success (with_reducible show wpAny _ _ (exec (Stmt.While _ _ _ _) _) _ _ _)); (fail_if_success (with_reducible show wpAny _ _ (exec (Stmt.For _ _ _ _ _) _) _ _ _)))); (fail_if_success (with_reducible show InvEndN _ _ _ _ _ _ _)); (fail_if_success (with_reducible show wpAny _ _ (binaryOp Operator.Mult (Value.ref _) _) _ _ _)); (fail_if_success (with_reducible show wpAny _ _ (binaryOp Operator.Add (Value.ref _) _) _ _ _)); (fail_if_success (with_reducible show wpAny _ _ (subscriptTail _ _ (Value.ref _) _) _ _ _)); (fail_if_success (with_reducible show wpAny _ _ (call (Value.builtin "list.pop") _) _ _ _)); (fail_if_success (with_reducible show wpAny _ _ (call (Value.builtin _) [Value.str _ _, Value.ref _]) _ _ _)))); (fail_if_success (with_reducible show wpAny _ _ (call (Value.ref _) (List.cons (Value.ref _) _)) _ _ _)); (fail_if_success (with_reducible show wpAny _ _ (call (Value.ref _) [Value.str _ _, Value.ref _]) _ _ _)))); (fail_if_success (with_reducible show TextEnd _ _ _ _ _ _ _ _)); (fail_if_success (with_reducible show IntEnd _ _ _ _ _ _ _ _)); (fail_if_success (with_reducible show TupEnd _ _ _ _ _ _ _ _ _)))); (first | walk1 | (dsimp only; walk1)))))
            all_goals (rename Fr _ _ _ _ => F'; rename News _ _ _ _ => N')
            · exact TextEnd.of (kept1 hb (by with_reducible assumption) (by with_reducible assumption)) F' (fun p hp => N' p (.tail _ hp))
            · exact TextEnd.of (kept2 hb (by with_reducible assumption)) F' (fun p hp => N' p (.tail _ hp))
            · exact TextEnd.of (kept3 hb (by with_reducible assumption)) F' N'
          case g10 =>
            clear F' N'
            intro t9 h9 tk9 F' N'
            have hkl : (S (keptL p col)).length ≤ 64 := by
              rw [S_len]
              unfold keptL headL
              split
              · rw [hb]; omega
              · rw [hb]
                split <;> (rw [List.length_take]; omega)
            have hkd : (S ((keptL p col).drop (behL (keptL p col)))).length ≤ 64 := by
              rw [S_len, List.length_drop]
              rw [S_len] at hkl
              omega
            (repeat' (first | (k_unfold; (try dsimp only)) | ((((((((((fail_if_success (with_reducible show wpAny _ _ (exec (Stmt.While _ _ _ _) _) _ _ _)); (fail_if_success (with_reducible show wpAny _ _ (exec (Stmt.For _ _ _ _ _) _) _ _ _)))); (fail_if_success (with_reducible show InvEndN _ _ _ _ _ _ _)); (fail_if_success (with_reducible show wpAny _ _ (binaryOp Operator.Mult (Value.ref _) _) _ _ _)); (fail_if_success (with_reducible show wpAny _ _ (binaryOp Operator.Add (Value.ref _) _) _ _ _)); (fail_if_success (with_reducible show wpAny _ _ (subscriptTail _ _ (Value.ref _) _) _ _ _)); (fail_if_success (with_reducible show wpAny _ _ (call (Value.builtin "list.pop") _) _ _ _)); (fail_if_success (with_reducible show wpAny _ _ (call (Value.builtin _) [Value.str _ _, Value.ref _]) _ _ _)))); (fail_if_success (with_reducible show wpAny _ _ (call (Value.ref _) (List.cons (Value.ref _) _)) _ _ _)); (fail_if_success (with_reducible show wpAny _ _ (call (Value.ref _) [Value.str _ _, Value.ref _]) _ _ _)))); (fail_if_success (with_reducible show wpAny _ _ (eval (Expr.BoolOp _ _ _) _) _ _ _)); (fail_if_success (with_reducible show wpAny _ _ (eval (Expr.IfExp _ _ _ _) _) _ _ _)); (fail_if_success (with_reducible show wpAny _ _ (compareOp _ (Value.ref _) (Value.ref _)) _ _ _)))); (first | walk1 | (dsimp only; walk1)))))
            rename Fr _ _ _ _ => F'
            rename News _ _ _ _ => N'
            refine law_span_ok (own := [(l5, W.listOf vs5.toArray n5)]) F' N' X Tp HT₄ off5 hxl goodN h4 (by omega) (by dsimp only [Around.deeper, Around.in1, Around.mark]; omega) ?_
            clear F' N'
            intro a1 t1 t2 T₅ h9 tk9 HT₅ le₅ F' N' off'
            rw [S_cs, last_law p col hcol] at N'
            have off6 : ∀ p ∈ [(l5, W.listOf vs5.toArray n5)], ∀ q ∈ T₅, p.1 ≠ q.1 := fun p hp q hq => off' p (.tail _ hp) q hq
            clear off' off5
            simp only [List.cons_append, List.nil_append] at N'
            have hL2 : (S (keptL p col)).length = (keptL p col).length := S_len _
            have hL3 : (S ((keptL p col).drop (behL (keptL p col)))).length = (keptL p col).length - behL (keptL p col) := by rw [S_len, List.length_drop]
            have hL4 : behL (keptL p col) ≤ (keptL p col).length := (lst_spec 47 _).1
            generalize S ((keptL p col).drop (behL (keptL p col))) = sk at *
            generalize S (keptL p col) = ks at *
            generalize behL (keptL p col) = k1 at *
            generalize (keptL p col).length = k2 at *
            (repeat' (first | (k_unfold; (try dsimp only)) | ((((((((((fail_if_success (with_reducible show wpAny _ _ (exec (Stmt.While _ _ _ _) _) _ _ _)); (fail_if_success (with_reducible show wpAny _ _ (exec (Stmt.For _ _ _ _ _) _) _ _ _)))); (fail_if_success (with_reducible show InvEndN _ _ _ _ _ _ _)); (fail_if_success (with_reducible show wpAny _ _ (binaryOp Operator.Mult (Value.ref _) _) _ _ _)); (fail_if_success (with_reducible show wpAny _ _ (binaryOp Operator.Add (Value.ref _) _) _ _ _)); (fail_if_success (with_reducible show wpAny _ _ (subscriptTail _ _ (Value.ref _) _) _ _ _)); (fail_if_success (with_reducible show wpAny _ _ (call (Value.builtin "list.pop") _) _ _ _)); (fail_if_success (with_reducible show wpAny _ _ (call (Value.builtin _) [Value.str _ _, Value.ref _]) _ _ _)))); (fail_if_success (with_reducible show wpAny _ _ (call (Value.ref _) (List.cons (Value.ref _) _)) _ _ _)); (fail_if_success (with_reducible show wpAny _ _ (call (Value.ref _) [Value.str _ _, Value.ref _]) _ _ _)))); (fail_if_success (with_reducible show wpAny _ _ (eval (Expr.BoolOp _ _ _) _) _ _ _)); (fail_if_success (with_reducible show wpAny _ _ (eval (Expr.IfExp _ _ _ _) _) _ _ _)); (fail_if_success (with_reducible show wpAny _ _ (compareOp _ (Value.ref _) (Value.ref _)) _ _ _)))); (first | walk1 | (dsimp only; walk1)))))
            rename Fr _ _ _ _ => F'
            rename News _ _ _ _ => N'
            refine' tup_join (((if k2 - k1 ≠ 0 then (k1, k2) else (0, 0)).1 : Nat) : Int) (((if k2 - k1 ≠ 0 then (k1, k2) else (0, 0)).2 : Nat) : Int) ?fj6 ?nj6 ?g11 ?g12
            case fj6 => exact F'
            case nj6 => exact N'
            case g11 =>
              (repeat' (first | (k_unfold; (try dsimp only)) | ((((((((((fail_if_success (with_reducible show wpAny _ _ (exec (Stmt.While _ _ _ _) _) _ _ _)); (fail_if_success (with_reducible show wpAny _ _ (exec (Stmt.For _ _ _ _ _) _) _ _ _)))); (fail_if_success (with_reducible show InvEndN _ _ _ _ _ _ _)); (fail_if_success (with_reducible show wpAny _ _ (binaryOp Operator.Mult (Value.ref _) _) _ _ _)); (fail_if_success (with_reducible show wpAny _ _ (binaryOp Operator.Add (Value.ref _) _) _ _ _)); (fail_if_success (with_reducible show wpAny _ _ (subscriptTail _ _ (Value.ref _) _) _ _ _)); (fail_if_success (with_reducible show wpAny _ _ (call (Value.builtin "list.pop") _) _ _ _)); (fail_if_success (with_reducible show wpAny _ _ (call (Value.builtin _) [Value.str _ _, Value.ref _]) _ _ _)))); (fail_if_success (with_reducible show wpAny _ _ (call (Value.ref _) (List.cons (Value.ref _) _)) _ _ _)); (fail_if_success (with_reducible show wpAny _ _ (call (Value.ref _) [Value.str _ _, Value.ref _]) _ _ _)))); (fail_if_success (with_reducible show TextEnd _ _ _ _ _ _ _ _)); (fail_if_success (with_reducible show IntEnd _ _ _ _ _ _ _ _)); (fail_if_success (with_reducible show TupEnd _ _ _ _ _ _ _ _ _)))); (first | walk1 | (dsimp only; walk1)))))
              all_goals (rename Fr _ _ _ _ => F'; rename News _ _ _ _ => N')
              · refine TupEnd.of ?_ ?_ F' N'
                · rw [if_pos (by omega)]; omega
                · rw [if_pos (by omega)]; omega
              · refine TupEnd.of ?_ ?_ F' N'
                · rw [if_neg (by omega)]; rfl
                · rw [if_neg (by omega)]; rfl
            case g12 =>
              clear F' N'
              intro a2 t3 t4 h9 tk9 F' N'
              (repeat' (first | (k_unfold; (try dsimp only)) | ((((((((((fail_if_success (with_reducible show wpAny _ _ (exec (Stmt.While _ _ _ _) _) _ _ _)); (fail_if_success (with_reducible show wpAny _ _ (exec (Stmt.For _ _ _ _ _) _) _ _ _)))); (fail_if_success (with_reducible show InvEndN _ _ _ _ _ _ _)); (fail_if_success (with_reducible show wpAny _ _ (binaryOp Operator.Mult (Value.ref _) _) _ _ _)); (fail_if_success (with_reducible show wpAny _ _ (binaryOp Operator.Add (Value.ref _) _) _ _ _)); (fail_if_success (with_reducible show wpAny _ _ (subscriptTail _ _ (Value.ref _) _) _ _ _)); (fail_if_success (with_reducible show wpAny _ _ (call (Value.builtin "list.pop") _) _ _ _)); (fail_if_success (with_reducible show wpAny _ _ (call (Value.builtin _) [Value.str _ _, Value.ref _]) _ _ _)))); (fail_if_success (with_reducible show wpAny _ _ (call (Value.ref _) (List.cons (Value.ref _) _)) _ _ _)); (fail_if_success (with_reducible show wpAny _ _ (call (Value.ref _) [Value.str _ _, Value.ref _]) _ _ _)))); (fail_if_success (with_reducible show wpAny _ _ (eval (Expr.BoolOp _ _ _) _) _ _ _)); (fail_if_success (with_reducible show wpAny _ _ (eval (Expr.IfExp _ _ _ _) _) _ _ _)); (fail_if_success (with_reducible show wpAny _ _ (compareOp _ (Value.ref _) (Value.ref _)) _ _ _)))); (first | walk1 | (dsimp only; walk1)))))
              refine ne_same2i (N' _ (.tail _ (.head _))).1 (N' _ (.head _)).1 (by dsimp only [Around.deeper, Around.in1, Around.mark]; omega) ?_
              have N₈ : News _ L' _ ((l5, W.listOf vs5.toArray n5) :: T₅) := fun p hp => N' p (.tail _ (.tail _ hp))
              clear N' hL2 hL3 hL4
              rename News _ _ _ _ => N'
              have fin : ∀ (m' : Str → Option Value) (nw : List (Addr × Obj)) (h' : Heap) (tk' : Nat), Fr (hideAll s.heap (T.map (·.1))) L' h' m' → News (hideAll s.heap (T.map (·.1))) L' h' nw → (∀ p ∈ T₅, p ∈ nw) → Q (.bool true) { s with heap := h', toks := tk' } := fun m' nw h' tk' F N hs => by
                obtain ⟨FR, NR, OF⟩ := back.out (R := T₅) F N hs
                exact ret T₅ h' tk' HT₅ (le₁.trans (le₂.trans (le₃.trans (le₄.trans le₅)))) FR (fun p hp => NR p (List.mem_append.mpr (List.mem_append.mp hp).symm)) (fun p hp q hq => OF q hq p hp)
              (repeat' (first | (k_unfold; (try dsimp only)) | ((((((((((((fail_if_success (with_reducible show wpAny _ _ (exec (Stmt.While _ _ _ _) _) _ _ _)); (fail_if_success (with_reducible show wpAny _ _ (exec (Stmt.For _ _ _ _ _) _) _ _ _)))); (fail_if_success (with_reducible show InvEndN _ _ _ _ _ _ _)); (fail_if_success (with_reducible show wpAny _ _ (binaryOp Operator.Mult (Value.ref _) _) _ _ _)); (fail_if_success (with_reducible show wpAny _ _ (binaryOp Operator.Add (Value.ref _) _) _ _ _)); (fail_if_success (with_reducible show wpAny _ _ (subscriptTail _ _ (Value.ref _) _) _ _ _)); (fail_if_success (with_reducible show wpAny _ _ (call (Value.builtin "list.pop") _) _ _ _)); (fail_if_success (with_reducible show wpAny _ _ (call (Value.builtin _) [Value.str _ _, Value.ref _]) _ _ _)))); (fail_if_success (with_reducible show wpAny _ _ (call (Value.ref _) (List.cons (Value.ref _) _)) _ _ _)); (fail_if_success (with_reducible show wpAny _ _ (call (Value.ref _) [Value.str _ _, Value.ref _]) _ _ _)))); (fail_if_success (with_reducible show wpAny _ _ (eval (Expr.BoolOp _ _ _) _) _ _ _)); (fail_if_success (with_reducible show wpAny _ _ (eval (Expr.IfExp _ _ _ _) _) _ _ _)); (fail_if_success (with_reducible show wpAny _ _ (compareOp _ (Value.ref _) (Value.ref _)) _ _ _)))); (fail_if_success (with_reducible show wpAny _ _ (exec (Stmt.Assign _ (Expr.ListComp _ _ _ _) _) _) _ _ _)); (fail_if_success (with_reducible show wpAny _ _ (eval (Expr.ListComp _ _ _ _) _) _ _ _)); (fail_if_success (with_reducible show LCt.CompSrcT _ _ _ _ _ _ _ _ _ _ _ _ _ _ _)); (fail_if_success (with_reducible show TestEnd _ _ _ _ _ _ _ _)))); (first | walk1 | (dsimp only; walk1)))))
              · rename Fr _ _ _ _ => F'
                rename News _ _ _ _ => N'
                exact fin _ _ _ _ F' N' (fun p hp => .tail _ hp)
              rename (S b == _) = false => hbe
              have hb0 : b ≠ [] := fun z => by rw [z] at hbe; revert hbe; decide
              rename Fr _ _ _ _ => F'
              rename News _ _ _ _ => N'
              have hpl := pcs_len b
              have hpl2 := pcs_len p
              have hq1 : ∀ z ∈ (pcs b).map S, z.length ≤ 64 := fun z hz => Nat.le_trans (pcs_sub b z hz) (by omega)
              have hq2 : ∀ z ∈ (pcs p).map S, z.length ≤ 64 := fun z hz => Nat.le_trans (pcs_sub p z hz) (by omega)
              have hr5 : StrsAre vs5.reverse ((pcs b).map S) := by
                have := strs_reverse hvs5
                rwa [List.map_reverse, List.reverse_reverse] at this
              refine LCt.Assign_ListComp_T F' rfl (by rfl) (by rfl) (by decide) rfl (by decide) rfl rfl rfl ?_
              (repeat' (first | (k_unfold; (try dsimp only)) | ((((((((((((fail_if_success (with_reducible show wpAny _ _ (exec (Stmt.While _ _ _ _) _) _ _ _)); (fail_if_success (with_reducible show wpAny _ _ (exec (Stmt.For _ _ _ _ _) _) _ _ _)))); (fail_if_success (with_reducible show InvEndN _ _ _ _ _ _ _)); (fail_if_success (with_reducible show wpAny _ _ (binaryOp Operator.Mult (Value.ref _) _) _ _ _)); (fail_if_success (with_reducible show wpAny _ _ (binaryOp Operator.Add (Value.ref _) _) _ _ _)); (fail_if_success (with_reducible show wpAny _ _ (subscriptTail _ _ (Value.ref _) _) _ _ _)); (fail_if_success (with_reducible show wpAny _ _ (call (Value.builtin "list.pop") _) _ _ _)); (fail_if_success (with_reducible show wpAny _ _ (call (Value.builtin _) [Value.str _ _, Value.ref _]) _ _ _)))); (fail_if_success (with_reducible show wpAny _ _ (call (Value.ref _) (List.cons (Value.ref _) _)) _ _ _)); (fail_if_success (with_reducible show wpAny _ _ (call (Value.ref _) [Value.str _ _, Value.ref _]) _ _ _)))); (fail_if_success (with_reducible show wpAny _ _ (eval (Expr.BoolOp _ _ _) _) _ _ _)); (fail_if_success (with_reducible show wpAny _ _ (eval (Expr.IfExp _ _ _ _) _) _ _ _)); (fail_if_success (with_reducible show wpAny _ _ (compareOp _ (Value.ref _) (Value.ref _)) _ _ _)))); (fail_if_success (with_reducible show wpAny _ _ (exec (Stmt.Assign _ (Expr.ListComp _ _ _ _) _) _) _ _ _)); (fail_if_success (with_reducible show wpAny _ _ (eval (Expr.ListComp _ _ _ _) _) _ _ _)); (fail_if_success (with_reducible show LCt.CompSrcT _ _ _ _ _ _ _ _ _ _ _ _ _ _ _)); (fail_if_success (with_reducible show TestEnd _ _ _ _ _ _ _ _)))); (first | walk1 | (dsimp only; walk1)))))
              rename Fr _ _ _ _ => F'
              rename News _ _ _ _ => N'
              refine' krv_lit (zs := vs5.reverse) ?F3 ?N3 ?l5 (IsPart.int _ _) rfl ?_ ?s5 ?t5 ?z5
              case F3 => exact F'
              case N3 => exact N'
              case l5 => exact ⟨_, (N' _ (.head _)).1, rfl, _, rfl⟩
              case s5 => with_unfolding_all rfl
              case t5 => kmk_pure
              case z5 => rw [List.size_toArray, hvs5.length, List.length_map, List.length_reverse, sizeLine_eq]; omega
              clear F' N'
              intro D3 h3 F' N' l3
              (repeat' (first | (k_unfold; (try dsimp only)) | ((((((((((((fail_if_success (with_reducible show wpAny _ _ (exec (Stmt.While _ _ _ _) _) _ _ _)); (fail_if_success (with_reducible show wpAny _ _ (exec (Stmt.For _ _ _ _ _) _) _ _ _)))); (fail_if_success (with_reducible show InvEndN _ _ _ _ _ _ _)); (fail_if_success (with_reducible show wpAny _ _ (binaryOp Operator.Mult (Value.ref _) _) _ _ _)); (fail_if_success (with_reducible show wpAny _ _ (binaryOp Operator.Add (Value.ref _) _) _ _ _)); (fail_if_success (with_reducible show wpAny _ _ (subscriptTail _ _ (Value.ref _) _) _ _ _)); (fail_if_success (with_reducible show wpAny _ _ (call (Value.builtin "list.pop") _) _ _ _)); (fail_if_success (with_reducible show wpAny _ _ (call (Value.builtin _) [Value.str _ _, Value.ref _]) _ _ _)))); (fail_if_success (with_reducible show wpAny _ _ (call (Value.ref _) (List.cons (Value.ref _) _)) _ _ _)); (fail_if_success (with_reducible show wpAny _ _ (call (Value.ref _) [Value.str _ _, Value.ref _]) _ _ _)))); (fail_if_success (with_reducible show wpAny _ _ (eval (Expr.BoolOp _ _ _) _) _ _ _)); (fail_if_success (with_reducible show wpAny _ _ (eval (Expr.IfExp _ _ _ _) _) _ _ _)); (fail_if_success (with_reducible show wpAny _ _ (compareOp _ (Value.ref _) (Value.ref _)) _ _ _)))); (fail_if_success (with_reducible show wpAny _ _ (exec (Stmt.Assign _ (Expr.ListComp _ _ _ _) _) _) _ _ _)); (fail_if_success (with_reducible show wpAny _ _ (eval (Expr.ListComp _ _ _ _) _) _ _ _)); (fail_if_success (with_reducible show LCt.CompSrcT _ _ _ _ _ _ _ _ _ _ _ _ _ _ _)); (fail_if_success (with_reducible show TestEnd _ _ _ _ _ _ _ _)))); (first | walk1 | (dsimp only; walk1)))))
              refine LCt.CompSrcT.ledger rfl F' N' (k := 0) (.head _) (by rw [List.size_toArray, hr5.length, List.length_map, sizeLine_eq]; omega) (fun g => ?_)
              refine rest_texts (fun c => decide (c ≠ Str.ofString ".")) hr5 (.inr ⟨_, .head _, rfl, _, rfl⟩) rfl rfl (by decide) ?_ ?_
              · clear F' N' fin ret
                intro y₁ u₁ I oI C oC₁ D m₂ ys h tk E' hy₁ hC hx₁ F N off
                have hle : y₁.length ≤ 64 := hq1 _ hy₁
                (repeat' (first | (k_unfold; (try dsimp only)) | ((((((((((((fail_if_success (with_reducible show wpAny _ _ (exec (Stmt.While _ _ _ _) _) _ _ _)); (fail_if_success (with_reducible show wpAny _ _ (exec (Stmt.For _ _ _ _ _) _) _ _ _)))); (fail_if_success (with_reducible show InvEndN _ _ _ _ _ _ _)); (fail_if_success (with_reducible show wpAny _ _ (binaryOp Operator.Mult (Value.ref _) _) _ _ _)); (fail_if_success (with_reducible show wpAny _ _ (binaryOp Operator.Add (Value.ref _) _) _ _ _)); (fail_if_success (with_reducible show wpAny _ _ (subscriptTail _ _ (Value.ref _) _) _ _ _)); (fail_if_success (with_reducible show wpAny _ _ (call (Value.builtin "list.pop") _) _ _ _)); (fail_if_success (with_reducible show wpAny _ _ (call (Value.builtin _) [Value.str _ _, Value.ref _]) _ _ _)))); (fail_if_success (with_reducible show wpAny _ _ (call (Value.ref _) (List.cons (Value.ref _) _)) _ _ _)); (fail_if_success (with_reducible show wpAny _ _ (call (Value.ref _) [Value.str _ _, Value.ref _]) _ _ _)))); (fail_if_success (with_reducible show wpAny _ _ (eval (Expr.BoolOp _ _ _) _) _ _ _)); (fail_if_success (with_reducible show wpAny _ _ (eval (Expr.IfExp _ _ _ _) _) _ _ _)); (fail_if_success (with_reducible show wpAny _ _ (compareOp _ (Value.ref _) (Value.ref _)) _ _ _)))); (fail_if_success (with_reducible show wpAny _ _ (exec (Stmt.Assign _ (Expr.ListComp _ _ _ _) _) _) _ _ _)); (fail_if_success (with_reducible show wpAny _ _ (eval (Expr.ListComp _ _ _ _) _) _ _ _)); (fail_if_success (with_reducible show LCt.CompSrcT _ _ _ _ _ _ _ _ _ _ _ _ _ _ _)); (fail_if_success (with_reducible show TestEnd _ _ _ _ _ _ _ _)))); (first | walk1 | (dsimp only; walk1)))))
                exact TestEnd.of tdot (by with_reducible assumption) (by with_reducible assumption)
              clear F' N'
              intro ys1 hys1
              rw [← sift_law] at hys1
              unfold LCg.FinA
              intro E1 h tk F' N2 o1
              have N' : News _ L' _ ((E1, LCg.lst ys1) :: T₅) := fun p hp => by
                rcases List.mem_cons.mp hp with rfl | hp
                · exact N2 _ (.head _)
                · exact N2 _ (.tail _ (.tail _ (.tail _ hp)))
              clear N2 o1 l3
              (repeat' (first | (k_unfold; (try dsimp only)) | ((((((((((((fail_if_success (with_reducible show wpAny _ _ (exec (Stmt.While _ _ _ _) _) _ _ _)); (fail_if_success (with_reducible show wpAny _ _ (exec (Stmt.For _ _ _ _ _) _) _ _ _)))); (fail_if_success (with_reducible show InvEndN _ _ _ _ _ _ _)); (fail_if_success (with_reducible show wpAny _ _ (binaryOp Operator.Mult (Value.ref _) _) _ _ _)); (fail_if_success (with_reducible show wpAny _ _ (binaryOp Operator.Add (Value.ref _) _) _ _ _)); (fail_if_success (with_reducible show wpAny _ _ (subscriptTail _ _ (Value.ref _) _) _ _ _)); (fail_if_success (with_reducible show wpAny _ _ (call (Value.builtin "list.pop") _) _ _ _)); (fail_if_success (with_reducible show wpAny _ _ (call (Value.builtin _) [Value.str _ _, Value.ref _]) _ _ _)))); (fail_if_success (with_reducible show wpAny _ _ (call (Value.ref _) (List.cons (Value.ref _) _)) _ _ _)); (fail_if_success (with_reducible show wpAny _ _ (call (Value.ref _) [Value.str _ _, Value.ref _]) _ _ _)))); (fail_if_success (with_reducible show wpAny _ _ (eval (Expr.BoolOp _ _ _) _) _ _ _)); (fail_if_success (with_reducible show wpAny _ _ (eval (Expr.IfExp _ _ _ _) _) _ _ _)); (fail_if_success (with_reducible show wpAny _ _ (compareOp _ (Value.ref _) (Value.ref _)) _ _ _)))); (fail_if_success (with_reducible show wpAny _ _ (exec (Stmt.Assign _ (Expr.ListComp _ _ _ _) _) _) _ _ _)); (fail_if_success (with_reducible show wpAny _ _ (eval (Expr.ListComp _ _ _ _) _) _ _ _)); (fail_if_success (with_reducible show LCt.CompSrcT _ _ _ _ _ _ _ _ _ _ _ _ _ _ _)); (fail_if_success (with_reducible show TestEnd _ _ _ _ _ _ _ _)))); (first | walk1 | (dsimp only; walk1)))))
              rename Fr _ _ _ _ => F'
              rename News _ _ _ _ => N'
              refine LCt.ListComp_T (F₀ := F') (by rfl) (by decide) rfl (by decide) rfl ?_
              (repeat' (first | (k_unfold; (try dsimp only)) | ((((((((((((fail_if_success (with_reducible show wpAny _ _ (exec (Stmt.While _ _ _ _) _) _ _ _)); (fail_if_success (with_reducible show wpAny _ _ (exec (Stmt.For _ _ _ _ _) _) _ _ _)))); (fail_if_success (with_reducible show InvEndN _ _ _ _ _ _ _)); (fail_if_success (with_reducible show wpAny _ _ (binaryOp Operator.Mult (Value.ref _) _) _ _ _)); (fail_if_success (with_reducible show wpAny _ _ (binaryOp Operator.Add (Value.ref _) _) _ _ _)); (fail_if_success (with_reducible show wpAny _ _ (subscriptTail _ _ (Value.ref _) _) _ _ _)); (fail_if_success (with_reducible show wpAny _ _ (call (Value.builtin "list.pop") _) _ _ _)); (fail_if_success (with_reducible show wpAny _ _ (call (Value.builtin _) [Value.str _ _, Value.ref _]) _ _ _)))); (fail_if_success (with_reducible show wpAny _ _ (call (Value.ref _) (List.cons (Value.ref _) _)) _ _ _)); (fail_if_success (with_reducible show wpAny _ _ (call (Value.ref _) [Value.str _ _, Value.ref _]) _ _ _)))); (fail_if_success (with_reducible show wpAny _ _ (eval (Expr.BoolOp _ _ _) _) _ _ _)); (fail_if_success (with_reducible show wpAny _ _ (eval (Expr.IfExp _ _ _ _) _) _ _ _)); (fail_if_success (with_reducible show wpAny _ _ (compareOp _ (Value.ref _) (Value.ref _)) _ _ _)))); (fail_if_success (with_reducible show wpAny _ _ (exec (Stmt.Assign _ (Expr.ListComp _ _ _ _) _) _) _ _ _)); (fail_if_success (with_reducible show wpAny _ _ (eval (Expr.ListComp _ _ _ _) _) _ _ _)); (fail_if_success (with_reducible show LCt.CompSrcT _ _ _ _ _ _ _ _ _ _ _ _ _ _ _)); (fail_if_success (with_reducible show TestEnd _ _ _ _ _ _ _ _)))); (first | walk1 | (dsimp only; walk1)))))
              refine LCt.CompSrcT.base rfl F' N' hwh (by rw [List.size_toArray, hvs.length, List.length_map, sizeLine_eq]; omega) (fun g => ?_)
              refine rest_texts (fun c => decide (c ≠ Str.ofString ".")) hvs (.inl hwh) rfl rfl (by decide) ?_ ?_
              · clear F' N' fin ret
                intro y₁ u₁ I oI C oC₁ D m₂ ys h tk E' hy₁ hC hx₁ F N off
                have hle : y₁.length ≤ 64 := hq2 _ hy₁
                (repeat' (first | (k_unfold; (try dsimp only)) | ((((((((((((fail_if_success (with_reducible show wpAny _ _ (exec (Stmt.While _ _ _ _) _) _ _ _)); (fail_if_success (with_reducible show wpAny _ _ (exec (Stmt.For _ _ _ _ _) _) _ _ _)))); (fail_if_success (with_reducible show InvEndN _ _ _ _ _ _ _)); (fail_if_success (with_reducible show wpAny _ _ (binaryOp Operator.Mult (Value.ref _) _) _ _ _)); (fail_if_success (with_reducible show wpAny _ _ (binaryOp Operator.Add (Value.ref _) _) _ _ _)); (fail_if_success (with_reducible show wpAny _ _ (subscriptTail _ _ (Value.ref _) _) _ _ _)); (fail_if_success (with_reducible show wpAny _ _ (call (Value.builtin "list.pop") _) _ _ _)); (fail_if_success (with_reducible show wpAny _ _ (call (Value.builtin _) [Value.str _ _, Value.ref _]) _ _ _)))); (fail_if_success (with_reducible show wpAny _ _ (call (Value.ref _) (List.cons (Value.ref _) _)) _ _ _)); (fail_if_success (with_reducible show wpAny _ _ (call (Value.ref _) [Value.str _ _, Value.ref _]) _ _ _)))); (fail_if_success (with_reducible show wpAny _ _ (eval (Expr.BoolOp _ _ _) _) _ _ _)); (fail_if_success (with_reducible show wpAny _ _ (eval (Expr.IfExp _ _ _ _) _) _ _ _)); (fail_if_success (with_reducible show wpAny _ _ (compareOp _ (Value.ref _) (Value.ref _)) _ _ _)))); (fail_if_success (with_reducible show wpAny _ _ (exec (Stmt.Assign _ (Expr.ListComp _ _ _ _) _) _) _ _ _)); (fail_if_success (with_reducible show wpAny _ _ (eval (Expr.ListComp _ _ _ _) _) _ _ _)); (fail_if_success (with_reducible show LCt.CompSrcT _ _ _ _ _ _ _ _ _ _ _ _ _ _ _)); (fail_if_success (with_reducible show TestEnd _ _ _ _ _ _ _ _)))); (first | walk1 | (dsimp only; walk1)))))
                exact TestEnd.of tdot (by with_reducible assumption) (by with_reducible assumption)
              clear F' N'
              intro ys2 hys2
              rw [← sift_law] at hys2
              unfold LCg.FinE
              intro E2 h tk F' N' o1
              clear o1
              have hs1 : (sift (S b)).length ≤ 64 := by
                rw [sift_law]; exact Nat.le_trans (List.length_filter_le _ _) (by rw [List.length_map]; omega)
              have hs2 : (sift (S p)).length ≤ 64 := by
                rw [sift_law]; exact Nat.le_trans (List.length_filter_le _ _) (by rw [List.length_map]; omega)
              have hs3 : ∀ z ∈ sift (S b), z.length ≤ 64 := fun z hz => by
                rw [sift_law] at hz; exact hq1 z (List.mem_filter.mp hz).1
              have hs4 : ∀ z ∈ sift (S p), z.length ≤ 64 := fun z hz => by
                rw [sift_law] at hz; exact hq2 z (List.mem_filter.mp hz).1
              (repeat' (first | (k_unfold; (try dsimp only)) | ((((((((((((fail_if_success (with_reducible show wpAny _ _ (exec (Stmt.While _ _ _ _) _) _ _ _)); (fail_if_success (with_reducible show wpAny _ _ (exec (Stmt.For _ _ _ _ _) _) _ _ _)))); (fail_if_success (with_reducible show InvEndN _ _ _ _ _ _ _)); (fail_if_success (with_reducible show wpAny _ _ (binaryOp Operator.Mult (Value.ref _) _) _ _ _)); (fail_if_success (with_reducible show wpAny _ _ (binaryOp Operator.Add (Value.ref _) _) _ _ _)); (fail_if_success (with_reducible show wpAny _ _ (subscriptTail _ _ (Value.ref _) _) _ _ _)); (fail_if_success (with_reducible show wpAny _ _ (call (Value.builtin "list.pop") _) _ _ _)); (fail_if_success (with_reducible show wpAny _ _ (call (Value.builtin _) [Value.str _ _, Value.ref _]) _ _ _)))); (fail_if_success (with_reducible show wpAny _ _ (call (Value.ref _) (List.cons (Value.ref _) _)) _ _ _)); (fail_if_success (with_reducible show wpAny _ _ (call (Value.ref _) [Value.str _ _, Value.ref _]) _ _ _)))); (fail_if_success (with_reducible show wpAny _ _ (eval (Expr.BoolOp _ _ _) _) _ _ _)); (fail_if_success (with_reducible show wpAny _ _ (eval (Expr.IfExp _ _ _ _) _) _ _ _)); (fail_if_success (with_reducible show wpAny _ _ (compareOp _ (Value.ref _) (Value.ref _)) _ _ _)))); (fail_if_success (with_reducible show wpAny _ _ (exec (Stmt.Assign _ (Expr.ListComp _ _ _ _) _) _) _ _ _)); (fail_if_success (with_reducible show wpAny _ _ (eval (Expr.ListComp _ _ _ _) _) _ _ _)); (fail_if_success (with_reducible show LCt.CompSrcT _ _ _ _ _ _ _ _ _ _ _ _ _ _ _)); (fail_if_success (with_reducible show TestEnd _ _ _ _ _ _ _ _)))); (first | walk1 | (dsimp only; walk1)))))
              rename Fr _ _ _ _ => F'
              rename News _ _ _ _ => N'
              refine alike_ok F' N' X Tp ⟨_, (N' _ (.tail _ (.head _))).1, rfl, _, rfl⟩ hys1 ⟨_, (N' _ (.head _)).1, rfl, _, rfl⟩ hys2 hs1 hs2 hs3 hs4 (by dsimp only [Around.deeper, Around.in1, Around.mark]; omega) ?_
              have N₉ : News _ L' _ ((E1, LCg.lst ys1) :: T₅) := fun p hp => N' p (.tail _ hp)
              clear N'
              rename News _ _ _ _ => N'
              (repeat' (first | (k_unfold; (try dsimp only)) | ((((((((((((fail_if_success (with_reducible show wpAny _ _ (exec (Stmt.While _ _ _ _) _) _ _ _)); (fail_if_success (with_reducible show wpAny _ _ (exec (Stmt.For _ _ _ _ _) _) _ _ _)))); (fail_if_success (with_reducible show InvEndN _ _ _ _ _ _ _)); (fail_if_success (with_reducible show wpAny _ _ (binaryOp Operator.Mult (Value.ref _) _) _ _ _)); (fail_if_success (with_reducible show wpAny _ _ (binaryOp Operator.Add (Value.ref _) _) _ _ _)); (fail_if_success (with_reducible show wpAny _ _ (subscriptTail _ _ (Value.ref _) _) _ _ _)); (fail_if_success (with_reducible show wpAny _ _ (call (Value.builtin "list.pop") _) _ _ _)); (fail_if_success (with_reducible show wpAny _ _ (call (Value.builtin _) [Value.str _ _, Value.ref _]) _ _ _)))); (fail_if_success (with_reducible show wpAny _ _ (call (Value.ref _) (List.cons (Value.ref _) _)) _ _ _)); (fail_if_success (with_reducible show wpAny _ _ (call (Value.ref _) [Value.str _ _, Value.ref _]) _ _ _)))); (fail_if_success (with_reducible show wpAny _ _ (eval (Expr.BoolOp _ _ _) _) _ _ _)); (fail_if_success (with_reducible show wpAny _ _ (eval (Expr.IfExp _ _ _ _) _) _ _ _)); (fail_if_success (with_reducible show wpAny _ _ (compareOp _ (Value.ref _) (Value.ref _)) _ _ _)))); (fail_if_success (with_reducible show wpAny _ _ (exec (Stmt.Assign _ (Expr.ListComp _ _ _ _) _) _) _ _ _)); (fail_if_success (with_reducible show wpAny _ _ (eval (Expr.ListComp _ _ _ _) _) _ _ _)); (fail_if_success (with_reducible show LCt.CompSrcT _ _ _ _ _ _ _ _ _ _ _ _ _ _ _)); (fail_if_success (with_reducible show TestEnd _ _ _ _ _ _ _ _)))); (first | walk1 | (dsimp only; walk1)))))
              rename Fr _ _ _ _ => F'
              rename News _ _ _ _ => N'
              refine commonpath_ok F' N' X Tp hbl2 hxl ⟨_, (N' _ (.head _)).1, rfl, _, rfl⟩ (abs_same hb hb0) (by dsimp only [Around.deeper, Around.in1, Around.mark]; omega) (by dsimp only [Around.deeper, Around.in1, Around.mark]; omega) ?_
              clear F' N'
              intro tcm h tk F' N2
              have N' : News _ L' _ ((E1, LCg.lst ys1) :: T₅) := fun p hp => N2 p (.tail _ (.tail _ hp))
              clear N2
              unfold commonS
              (repeat' (first | (k_unfold; (try dsimp only)) | ((((((((((((fail_if_success (with_reducible show wpAny _ _ (exec (Stmt.While _ _ _ _) _) _ _ _)); (fail_if_success (with_reducible show wpAny _ _ (exec (Stmt.For _ _ _ _ _) _) _ _ _)))); (fail_if_success (with_reducible show InvEndN _ _ _ _ _ _ _)); (fail_if_success (with_reducible show wpAny _ _ (binaryOp Operator.Mult (Value.ref _) _) _ _ _)); (fail_if_success (with_reducible show wpAny _ _ (binaryOp Operator.Add (Value.ref _) _) _ _ _)); (fail_if_success (with_reducible show wpAny _ _ (subscriptTail _ _ (Value.ref _) _) _ _ _)); (fail_if_success (with_reducible show wpAny _ _ (call (Value.builtin "list.pop") _) _ _ _)); (fail_if_success (with_reducible show wpAny _ _ (call (Value.builtin _) [Value.str _ _, Value.ref _]) _ _ _)))); (fail_if_success (with_reducible show wpAny _ _ (call (Value.ref _) (List.cons (Value.ref _) _)) _ _ _)); (fail_if_success (with_reducible show wpAny _ _ (call (Value.ref _) [Value.str _ _, Value.ref _]) _ _ _)))); (fail_if_success (with_reducible show wpAny _ _ (eval (Expr.BoolOp _ _ _) _) _ _ _)); (fail_if_success (with_reducible show wpAny _ _ (eval (Expr.IfExp _ _ _ _) _) _ _ _)); (fail_if_success (with_reducible show wpAny _ _ (compareOp _ (Value.ref _) (Value.ref _)) _ _ _)))); (fail_if_success (with_reducible show wpAny _ _ (exec (Stmt.Assign _ (Expr.ListComp _ _ _ _) _) _) _ _ _)); (fail_if_success (with_reducible show wpAny _ _ (eval (Expr.ListComp _ _ _ _) _) _ _ _)); (fail_if_success (with_reducible show LCt.CompSrcT _ _ _ _ _ _ _ _ _ _ _ _ _ _ _)); (fail_if_success (with_reducible show TestEnd _ _ _ _ _ _ _ _)))); (first | walk1 | (dsimp only; walk1)))))
              rename Fr _ _ _ _ => F'
              rename News _ _ _ _ => N'
              refine' val_join (if 0 < run 47 b 0 then Str.ofString "/" else Str.ofString "") ?fj7 ?nj7 ?g13 ?g14
              case fj7 => exact F'
              case nj7 => exact N'
              case g13 =>
                (repeat' (first | (k_unfold; (try dsimp only)) | ((((((((((fail_if_success (with_reducible show wpAny _ _ (exec (Stmt.While _ _ _ _) _) _ _ _)); (fail_if_success (with_reducible show wpAny _ _ (exec (Stmt.For _ _ _ _ _) _) _ _ _)))); (fail_if_success (with_reducible show InvEndN _ _ _ _ _ _ _)); (fail_if_success (with_reducible show wpAny _ _ (binaryOp Operator.Mult (Value.ref _) _) _ _ _)); (fail_if_success (with_reducible show wpAny _ _ (binaryOp Operator.Add (Value.ref _) _) _ _ _)); (fail_if_success (with_reducible show wpAny _ _ (subscriptTail _ _ (Value.ref _) _) _ _ _)); (fail_if_success (with_reducible show wpAny _ _ (call (Value.builtin "list.pop") _) _ _ _)); (fail_if_success (with_reducible show wpAny _ _ (call (Value.builtin _) [Value.str _ _, Value.ref _]) _ _ _)))); (fail_if_success (with_reducible show wpAny _ _ (call (Value.ref _) (List.cons (Value.ref _) _)) _ _ _)); (fail_if_success (with_reducible show wpAny _ _ (call (Value.ref _) [Value.str _ _, Value.ref _]) _ _ _)))); (fail_if_success (with_reducible show TextEnd _ _ _ _ _ _ _ _)); (fail_if_success (with_reducible show IntEnd _ _ _ _ _ _ _ _)); (fail_if_success (with_reducible show TupEnd _ _ _ _ _ _ _ _ _)))); (first | walk1 | (dsimp only; walk1)))))
                all_goals refine TextEnd.of ?_ (by with_reducible assumption) (by with_reducible assumption)
                · rw [if_pos (by omega)]
                · rw [if_neg (by omega)]
              case g14 =>
                clear F' N'
                intro t9 h9 tk9 F' N'
                have hpe : (if Txt.startswith (S b) (Str.ofString "/") = true then Str.ofString "/" else Str.ofString "") = (if 0 < run 47 b 0 then Str.ofString "/" else Str.ofString "") := by rw [abs_law]; simp
                have hpl3 : (if 0 < run 47 b 0 then Str.ofString "/" else Str.ofString "").length ≤ 64 := by split <;> decide
                rw [hpe]
                clear hpe
                generalize (if 0 < run 47 b 0 then Str.ofString "/" else Str.ofString "") = pre at *
                have hzl : ((sift (S b)).take (alike (sift (S b)) (sift (S p)))).length ≤ 64 := by rw [List.length_take]; exact Nat.le_trans (Nat.min_le_right _ _) hs1
                have hsum : (((sift (S b)).take (alike (sift (S b)) (sift (S p)))).map (·.length)).sum ≤ ((sift (S b)).take (alike (sift (S b)) (sift (S p)))).length * 64 := sum_le fun z hz => hs3 z (List.mem_of_mem_take hz)
                have hjl := join_len (Str.ofString "/") ((sift (S b)).take (alike (sift (S b)) (sift (S p))))
                rw [show (Str.ofString "/").length = 1 from rfl] at hjl
                have hJ2 : (Str.join (Str.ofString "/") ((sift (S b)).take (alike (sift (S b)) (sift (S p))))).length ≤ 8000 := by omega
                have hz2 : (((sift (S b)).take (alike (sift (S b)) (sift (S p)))).map (·.length)).sum + ((sift (S b)).take (alike (sift (S b)) (sift (S p)))).length ≤ 8000 := by omega
                clear hjl
                (repeat' (first | (k_unfold; (try dsimp only)) | ((((((((((((fail_if_success (with_reducible show wpAny _ _ (exec (Stmt.While _ _ _ _) _) _ _ _)); (fail_if_success (with_reducible show wpAny _ _ (exec (Stmt.For _ _ _ _ _) _) _ _ _)))); (fail_if_success (with_reducible show InvEndN _ _ _ _ _ _ _)); (fail_if_success (with_reducible show wpAny _ _ (binaryOp Operator.Mult (Value.ref _) _) _ _ _)); (fail_if_success (with_reducible show wpAny _ _ (binaryOp Operator.Add (Value.ref _) _) _ _ _)); (fail_if_success (with_reducible show wpAny _ _ (subscriptTail _ _ (Value.ref _) _) _ _ _)); (fail_if_success (with_reducible show wpAny _ _ (call (Value.builtin "list.pop") _) _ _ _)); (fail_if_success (with_reducible show wpAny _ _ (call (Value.builtin _) [Value.str _ _, Value.ref _]) _ _ _)))); (fail_if_success (with_reducible show wpAny _ _ (call (Value.ref _) (List.cons (Value.ref _) _)) _ _ _)); (fail_if_success (with_reducible show wpAny _ _ (call (Value.ref _) [Value.str _ _, Value.ref _]) _ _ _)))); (fail_if_success (with_reducible show wpAny _ _ (eval (Expr.BoolOp _ _ _) _) _ _ _)); (fail_if_success (with_reducible show wpAny _ _ (eval (Expr.IfExp _ _ _ _) _) _ _ _)); (fail_if_success (with_reducible show wpAny _ _ (compareOp _ (Value.ref _) (Value.ref _)) _ _ _)))); (fail_if_success (with_reducible show wpAny _ _ (exec (Stmt.Assign _ (Expr.ListComp _ _ _ _) _) _) _ _ _)); (fail_if_success (with_reducible show wpAny _ _ (eval (Expr.ListComp _ _ _ _) _) _ _ _)); (fail_if_success (with_reducible show LCt.CompSrcT _ _ _ _ _ _ _ _ _ _ _ _ _ _ _)); (fail_if_success (with_reducible show TestEnd _ _ _ _ _ _ _ _)))); (first | walk1 | (dsimp only; walk1)))))
                rename Fr _ _ _ _ => F'
                rename News _ _ _ _ => N'
                refine' kms_slice_lit ?f8 ?n8 ?l8 IsPart.none (IsPart.int _ _) (pick_take ys1 _) ?_ ?s8 ?t8 ?z8
                case f8 => exact F'
                case n8 => exact N'
                case l8 => exact ⟨_, (N' _ (.head _)).1, rfl, _, rfl⟩
                case s8 => with_unfolding_all rfl
                case t8 => kmk_pure
                case z8 => rw [List.size_toArray, hys1.length]; exact Nat.le_trans hs1 (by decide)
                clear F' N'
                intro D8 h8 F' N' l8
                have hys8 := strs_take hys1 (alike (sift (S b)) (sift (S p)))
                (repeat' (first | (k_unfold; (try dsimp only)) | ((((((((((((fail_if_success (with_reducible show wpAny _ _ (exec (Stmt.While _ _ _ _) _) _ _ _)); (fail_if_success (with_reducible show wpAny _ _ (exec (Stmt.For _ _ _ _ _) _) _ _ _)))); (fail_if_success (with_reducible show InvEndN _ _ _ _ _ _ _)); (fail_if_success (with_reducible show wpAny _ _ (binaryOp Operator.Mult (Value.ref _) _) _ _ _)); (fail_if_success (with_reducible show wpAny _ _ (binaryOp Operator.Add (Value.ref _) _) _ _ _)); (fail_if_success (with_reducible show wpAny _ _ (subscriptTail _ _ (Value.ref _) _) _ _ _)); (fail_if_success (with_reducible show wpAny _ _ (call (Value.builtin "list.pop") _) _ _ _)); (fail_if_success (with_reducible show wpAny _ _ (call (Value.builtin _) [Value.str _ _, Value.ref _]) _ _ _)))); (fail_if_success (with_reducible show wpAny _ _ (call (Value.ref _) (List.cons (Value.ref _) _)) _ _ _)); (fail_if_success (with_reducible show wpAny _ _ (call (Value.ref _) [Value.str _ _, Value.ref _]) _ _ _)))); (fail_if_success (with_reducible show wpAny _ _ (eval (Expr.BoolOp _ _ _) _) _ _ _)); (fail_if_success (with_reducible show wpAny _ _ (eval (Expr.IfExp _ _ _ _) _) _ _ _)); (fail_if_success (with_reducible show wpAny _ _ (compareOp _ (Value.ref _) (Value.ref _)) _ _ _)))); (fail_if_success (with_reducible show wpAny _ _ (exec (Stmt.Assign _ (Expr.ListComp _ _ _ _) _) _) _ _ _)); (fail_if_success (with_reducible show wpAny _ _ (eval (Expr.ListComp _ _ _ _) _) _ _ _)); (fail_if_success (with_reducible show LCt.CompSrcT _ _ _ _ _ _ _ _ _ _ _ _ _ _ _)); (fail_if_success (with_reducible show TestEnd _ _ _ _ _ _ _ _)))); (first | walk1 | (dsimp only; walk1)))))
                rename Fr _ _ _ _ => F'
                rename News _ _ _ _ => N'
                refine' join_listW ?l6 ?s6 (by decide +kernel) ?z6 ?_
                case l6 => exact ⟨_, (N' _ (.head _)).1, rfl, _, rfl⟩
                case s6 => exact hys8
                case z6 => omega
                intro t' k'
                rw [tjoin]
                clear hz2 hsum hzl hys8
                generalize Str.join (Str.ofString "/") ((sift (S b)).take (alike (sift (S b)) (sift (S p)))) = J at *
                (repeat' (first | (k_unfold; (try dsimp only)) | ((((((((((((fail_if_success (with_reducible show wpAny _ _ (exec (Stmt.While _ _ _ _) _) _ _ _)); (fail_if_success (with_reducible show wpAny _ _ (exec (Stmt.For _ _ _ _ _) _) _ _ _)))); (fail_if_success (with_reducible show InvEndN _ _ _ _ _ _ _)); (fail_if_success (with_reducible show wpAny _ _ (binaryOp Operator.Mult (Value.ref _) _) _ _ _)); (fail_if_success (with_reducible show wpAny _ _ (binaryOp Operator.Add (Value.ref _) _) _ _ _)); (fail_if_success (with_reducible show wpAny _ _ (subscriptTail _ _ (Value.ref _) _) _ _ _)); (fail_if_success (with_reducible show wpAny _ _ (call (Value.builtin "list.pop") _) _ _ _)); (fail_if_success (with_reducible show wpAny _ _ (call (Value.builtin _) [Value.str _ _, Value.ref _]) _ _ _)))); (fail_if_success (with_reducible show wpAny _ _ (call (Value.ref _) (List.cons (Value.ref _) _)) _ _ _)); (fail_if_success (with_reducible show wpAny _ _ (call (Value.ref _) [Value.str _ _, Value.ref _]) _ _ _)))); (fail_if_success (with_reducible show wpAny _ _ (eval (Expr.BoolOp _ _ _) _) _ _ _)); (fail_if_success (with_reducible show wpAny _ _ (eval (Expr.IfExp _ _ _ _) _) _ _ _)); (fail_if_success (with_reducible show wpAny _ _ (compareOp _ (Value.ref _) (Value.ref _)) _ _ _)))); (fail_if_success (with_reducible show wpAny _ _ (exec (Stmt.Assign _ (Expr.ListComp _ _ _ _) _) _) _ _ _)); (fail_if_success (with_reducible show wpAny _ _ (eval (Expr.ListComp _ _ _ _) _) _ _ _)); (fail_if_success (with_reducible show LCt.CompSrcT _ _ _ _ _ _ _ _ _ _ _ _ _ _ _)); (fail_if_success (with_reducible show TestEnd _ _ _ _ _ _ _ _)))); (first | walk1 | (dsimp only; walk1)))))
                rename Fr _ _ _ _ => F'
                rename News _ _ _ _ => N'
                rw [beq_self_eq_true]
                exact fin _ _ _ _ F' N' (fun p hp => .tail _ (.tail _ hp))
end
-- part lawp
theorem reset_lawp : True := by w_top off; trivial
/-- the table with one code object more -/
theorem tab_grownO {s : Shared} {g h' : Heap} {L P c' : Addr} {m : Str → Option Value} {own T : List (Addr × Obj)} {ql : Pos → Str} {qual : Str} {pos : Pos} {ps : Array Value} (hql : ∀ pos' : Pos, (pos.line : Int) = pos'.line → (pos.col : Int) = pos'.col → ql pos' = qual)
    (F : Fr g L s.heap m) (N : News g L s.heap (own ++ T)) (H : TabG P ql T) (hps : (P, tabObj ps) ∈ T) (ht : TriplesOk ps.toList) (hcodes : ∀ pos cv, codeAmong pos ps.toList = some cv → ∃ c, cv = .ref c ∧ HasCodeQ P (ql pos) T c) (off : ∀ p ∈ own, ∀ q ∈ T, p.1 ≠ q.1)
    (hx : Heap.ExtBut P s.heap h') (hge : s.heap.objs.size ≤ c') (hrec : h'.CodeRec (.ref c') qual) (htb : h'.get? P = some (tabObj (ps ++ #[rawInt pos.line, rawInt pos.col, .ref c']))) :
    ∃ T', TabG P ql T' ∧ TleP P T T' ∧ HasCodeQ P qual T' c' ∧ Fr g L h' m ∧ News g L h' (own ++ T') ∧ (∀ p ∈ own, ∀ q ∈ T', p.1 ≠ q.1) := by
  have hoff : ∀ p ∈ own, p.1 ≠ P := fun p hp => off p hp _ hps
  have hm := N _ (List.mem_append_right own hps)
  obtain ⟨c₂, oc, vs, t, e2, hoc, hd, hv⟩ := hrec
  cases e2
  have hLs : L < s.heap.objs.size := F.ns.lt
  have hLc : L < c' := Nat.lt_of_lt_of_le hLs hge
  have fresh : ∀ b, L < b → g.get? b = none := fun b hb => Heap.get?_none_of_le (Nat.le_trans F.above (Nat.le_of_lt hb))
  have hcP : c' ≠ P := Nat.ne_of_gt (Nat.lt_of_lt_of_le (Heap.lt_size hm.1) hge)
  let T' : List (Addr × Obj) := (P, tabObj (ps ++ #[rawInt pos.line, rawInt pos.col, .ref c'])) :: (c', oc) :: T.filter (fun p => p.1 != P)
  have hTl : TleP P T T' := fun p hp hn => List.mem_cons_of_mem _ (List.mem_cons_of_mem _ (List.mem_filter.mpr ⟨hp, by simpa using hn⟩))
  have hHC : HasCodeQ P qual T' c' := ⟨hcP, oc, vs, t, by simp [T'], hd, hv⟩
  refine ⟨T', ⟨fun p hp => ?_, _, List.mem_cons_self, ?_, fun pos' cv' e => ?_⟩, hTl, hHC, ⟨F.ns.extBut hx hm.2.1.symm, fun b o e => hx b o (fun q => by rw [q, hm.2.2] at e; cases e) (F.keep b o e), F.above⟩, fun p hp => ?_, fun p hp q hq => ?_⟩
  · rcases List.mem_cons.mp hp with rfl | hp
    · rfl
    · rcases List.mem_cons.mp hp with rfl | hp
      · unfold okO; simp only [hd]
      · exact H.bad p (List.mem_filter.mp hp).1
  · have := triples_snoc (p := pos) (c := .ref c') ps.toList ht
    simpa using this
  · rw [Array.toList_append] at e
    rcases codeAmong_append ps.toList ht e with e | ⟨e, e1, e2⟩
    · obtain ⟨c₁, e1, h1⟩ := hcodes _ _ e
      exact ⟨c₁, e1, h1.le hTl⟩
    · rw [hql pos' e1 e2]; exact ⟨c', e, hHC⟩
  · rcases List.mem_append.mp hp with hp | hp
    · have n := N p (List.mem_append_left _ hp)
      exact ⟨hx _ _ (hoff p hp) n.1, n.2⟩
    · rcases List.mem_cons.mp hp with rfl | hp
      · exact ⟨htb, hm.2⟩
      · rcases List.mem_cons.mp hp with rfl | hp
        · exact ⟨hoc, Nat.ne_of_gt hLc, fresh _ hLc⟩
        · obtain ⟨hp1, hp2⟩ := List.mem_filter.mp hp
          have n := N p (List.mem_append_right _ hp1)
          exact ⟨hx _ _ (by simpa using hp2) n.1, n.2⟩
  · rcases List.mem_cons.mp hq with rfl | hq
    · exact hoff p hp
    · rcases List.mem_cons.mp hq with rfl | hq
      · exact Nat.ne_of_lt (Nat.lt_of_lt_of_le (Heap.lt_size (N p (List.mem_append_left _ hp)).1) hge)
      · exact off p hp q (List.mem_filter.mp hq).1
section
variable {M : Model} {A : Around} {E : Value → Shared → Prop} {s : Shared} {g : Heap} {L a : Addr} {m mg mb : Str → Option Value} {cn : Str} {cs : Scope} {cl : List (Str × Addr)} {own T : List (Addr × Obj)}
  {loose : List Str} {mean : ExcName → Option Value} {name : Str} {params : Arguments} {body : Expr} {scope : Scope} {pos : Pos} {firstLine : Nat} {clos : List (Str × Addr)}
/-- a lambda of a def whose table is carried along: its code object stands in the table, or comes there -/
theorem lam_TO {Q : Value → Shared → Prop} {P c₀ : Addr} {ql : Pos → Str} {qual : Str} (hql : ∀ pos' : Pos, (pos.line : Int) = pos'.line → (pos.col : Int) = pos'.col → ql pos' = qual) (hgP : mainGlobals ≠ P)
    (F : Fr g L s.heap m) (N : News g L s.heap (own ++ T)) (H : TabG P ql T) (Tp : Top topProg loose mean mg mb g) (C : CodeHd g c₀ P) (off : ∀ p ∈ own, ∀ q ∈ T, p.1 ≠ q.1)
    (hcl : closureFor scope (envX cn cs L a (.ref c₀) cl) = pure clos)
    (h : ∀ f c' ctv h' tk T', TabG P ql T' → TleP P T T' → HasCodeQ P qual T' c' → Fr g L h' m → News g L h' ((f, kla_obj name qual params body scope clos ((mg "__name__").getD .none) c' ctv) :: (own ++ T')) → (∀ p ∈ own, ∀ q ∈ T', p.1 ≠ q.1) → Q (.ref f) { s with heap := h', toks := tk }) :
    wpAny M A (makeFunction name qual params (.expr body) scope (envX cn cs L a (.ref c₀) cl) [] [] [] pos firstLine) Q E s := by
  obtain ⟨ps, hps, ht, hcodes⟩ := H.tab
  have hm := N _ (List.mem_append_right own hps)
  have hgs := Tp.g.keeps F.keep
  obtain ⟨bm, ob, b1, b2, b3, b4, b5, b6⟩ := Tp.bmain
  have hoff : ∀ p ∈ own, p.1 ≠ P := fun p hp => off p hp _ hps
  have hbP : bm ≠ P := fun q => by
    have e := F.keep _ _ b3
    rw [q, hm.1] at e; cases e; cases b4
  have hbG : bm ≠ mainGlobals := fun q => by
    obtain ⟨o, es, ep, e, hd, _⟩ := Tp.g
    rw [q, e] at b3; cases b3; rw [hd] at b6; cases b6
  have hb : s.heap.BuiltinsAt mg P := ⟨bm, ob, b1, b2, hbG, hbP, F.keep _ _ b3, b4, b5, b6⟩
  have fresh : ∀ b, L < b → g.get? b = none := fun b hb => Heap.get?_none_of_le (Nat.le_trans F.above (Nat.le_of_lt hb))
  have hLs : L < s.heap.objs.size := F.ns.lt
  cases hf : codeAmong pos ps.toList with
  | some cv =>
    obtain ⟨c', rfl, hc'⟩ := hcodes _ _ hf
    rw [hql pos rfl rfl] at hc'
    refine kla_makeFunctionHit (mg := mg) hcl rfl hgs rfl (C.keeps F.keep) hm.1 ht hf hb fun ctv h' tk hk hsz => ?_
    have hLf : L < h'.objs.size := Nat.lt_of_lt_of_le hLs hsz
    refine h h'.objs.size c' ctv _ tk T H (TleP.refl P T) hc' ⟨(F.ns.keeps hk).push _, fun b o e => Heap.get?_push_of_some _ (hk b o (F.keep b o e)), F.above⟩ (fun p hp => ?_) off
    rcases List.mem_cons.mp hp with rfl | hp
    · exact ⟨Heap.get?_push_size _ rfl, Nat.ne_of_gt hLf, fresh _ hLf⟩
    · exact ⟨Heap.get?_push_of_some _ (hk _ _ (N p hp).1), (N p hp).2⟩
  | none =>
    refine kla_makeFunction (mg := mg) hcl rfl hgs rfl (C.keeps F.keep) hm.1 ht hf hgP hb fun c' ctv h' tk hx hge hlt hrec htb => ?_
    obtain ⟨_, hH, hTl, hHC, F₁, N₁, off₁⟩ := tab_grownO hql F N H hps ht hcodes off hx hge hrec htb
    have hLf : L < h'.objs.size := Nat.lt_trans (Nat.lt_of_lt_of_le hLs hge) hlt
    refine h h'.objs.size c' ctv _ tk _ hH hTl hHC (F₁.push _) (fun p hp => ?_) off₁
    rcases List.mem_cons.mp hp with rfl | hp
    · exact ⟨Heap.get?_push_size _ rfl, Nat.ne_of_gt hLf, fresh _ hLf⟩
    · exact ⟨Heap.get?_push_of_some _ (N₁ p hp).1, (N₁ p hp).2⟩
end
/-! the ledger of law: R, and the three tables of code objects -/
noncomputable abbrev qLw : Str := Str.ofString "law.<locals>.<lambda>"
theorem tab_empty (P : Addr) (ql : Pos → Str) : TabG P ql [(P, tabObj #[])] where
  bad := fun p hp => by rw [List.mem_singleton.mp hp]; rfl
  tab := ⟨#[], .head _, True.intro, fun pos cv e => by cases e⟩
structure LW (R T1 T2 T3 : List (Addr × Obj)) : Prop where
  H1 : TabL T1
  H2 : TabP T2
  H3 : TabG 261 (fun _ => qLw) T3
  ok : ∀ p ∈ R, okO p.2 = true
  o12 : ∀ p ∈ T1, ∀ q ∈ T2, p.1 ≠ q.1
  o13 : ∀ p ∈ T1, ∀ q ∈ T3, p.1 ≠ q.1
  o23 : ∀ p ∈ T2, ∀ q ∈ T3, p.1 ≠ q.1
section
variable {h₀ h : Heap} {L : Addr} {m : Str → Option Value} {R T1 T2 T3 : List (Addr × Obj)}
theorem news_sub {a b : List (Addr × Obj)} (N : News h₀ L h a) (s : ∀ p ∈ b, p ∈ a) : News h₀ L h b := fun p hp => N p (s p hp)
theorem LW.n1 (N : News h₀ L h (R ++ (T1 ++ (T2 ++ T3)))) : News h₀ L h ((R ++ (T2 ++ T3)) ++ T1) := news_sub N fun p hp => by
  simp only [List.mem_append] at hp ⊢
  rcases hp with (a | a | a) | a <;> simp [a]
theorem LW.n2 (N : News h₀ L h (R ++ (T1 ++ (T2 ++ T3)))) : News h₀ L h ((R ++ (T1 ++ T3)) ++ T2) := news_sub N fun p hp => by
  simp only [List.mem_append] at hp ⊢
  rcases hp with (a | a | a) | a <;> simp [a]
theorem LW.n3 (N : News h₀ L h (R ++ (T1 ++ (T2 ++ T3)))) : News h₀ L h ((R ++ (T1 ++ T2)) ++ T3) := news_sub N fun p hp => by
  simp only [List.mem_append] at hp ⊢
  rcases hp with (a | a | a) | a <;> simp [a]
theorem LW.r1 (x : LW R T1 T2 T3) (N : News h₀ L h (R ++ (T1 ++ (T2 ++ T3)))) : ∀ p ∈ R, ∀ q ∈ T1, p.1 ≠ q.1 := off_of N x.H1.bad (fun p hp => by simp [hp]) fun p hp => ⟨by simp [hp], x.ok p hp⟩
theorem LW.r2 (x : LW R T1 T2 T3) (N : News h₀ L h (R ++ (T1 ++ (T2 ++ T3)))) : ∀ p ∈ R, ∀ q ∈ T2, p.1 ≠ q.1 := off_of N x.H2.bad (fun p hp => by simp [hp]) fun p hp => ⟨by simp [hp], x.ok p hp⟩
theorem LW.r3 (x : LW R T1 T2 T3) (N : News h₀ L h (R ++ (T1 ++ (T2 ++ T3)))) : ∀ p ∈ R, ∀ q ∈ T3, p.1 ≠ q.1 := off_of N x.H3.bad (fun p hp => by simp [hp]) fun p hp => ⟨by simp [hp], x.ok p hp⟩
theorem LW.off1 (x : LW R T1 T2 T3) (N : News h₀ L h (R ++ (T1 ++ (T2 ++ T3)))) : ∀ p ∈ R ++ (T2 ++ T3), ∀ q ∈ T1, p.1 ≠ q.1 := fun p hp q hq => by
  rcases List.mem_append.mp hp with a | a
  · exact x.r1 N p a q hq
  · rcases List.mem_append.mp a with a | a
    · exact (x.o12 q hq p a).symm
    · exact (x.o13 q hq p a).symm
theorem LW.off2 (x : LW R T1 T2 T3) (N : News h₀ L h (R ++ (T1 ++ (T2 ++ T3)))) : ∀ p ∈ R ++ (T1 ++ T3), ∀ q ∈ T2, p.1 ≠ q.1 := fun p hp q hq => by
  rcases List.mem_append.mp hp with a | a
  · exact x.r2 N p a q hq
  · rcases List.mem_append.mp a with a | a
    · exact x.o12 p a q hq
    · exact (x.o23 q hq p a).symm
theorem LW.off3 (x : LW R T1 T2 T3) (N : News h₀ L h (R ++ (T1 ++ (T2 ++ T3)))) : ∀ p ∈ R ++ (T1 ++ T2), ∀ q ∈ T3, p.1 ≠ q.1 := fun p hp q hq => by
  rcases List.mem_append.mp hp with a | a
  · exact x.r3 N p a q hq
  · rcases List.mem_append.mp a with a | a
    · exact x.o13 p a q hq
    · exact x.o23 p a q hq
theorem LW.of1 {T1' : List (Addr × Obj)} (x : LW R T1 T2 T3) (H : TabL T1') (o : ∀ p ∈ R ++ (T2 ++ T3), ∀ q ∈ T1', p.1 ≠ q.1) : LW R T1' T2 T3 :=
  ⟨H, x.H2, x.H3, x.ok, fun p hp q hq => (o q (by simp [hq]) p hp).symm, fun p hp q hq => (o q (by simp [hq]) p hp).symm, x.o23⟩
theorem LW.n1' {T1' : List (Addr × Obj)} (N : News h₀ L h ((R ++ (T2 ++ T3)) ++ T1')) : News h₀ L h (R ++ (T1' ++ (T2 ++ T3))) := news_sub N fun p hp => by
  simp only [List.mem_append] at hp ⊢
  rcases hp with a | a | a | a <;> simp [a]
theorem LW.of2 {T2' Rn : List (Addr × Obj)} (x : LW R T1 T2 T3) (H : TabP T2') (o : ∀ p ∈ Rn ++ (R ++ (T1 ++ T3)), ∀ q ∈ T2', p.1 ≠ q.1) (hn : ∀ p ∈ Rn, okO p.2 = true) : LW (Rn ++ R) T1 T2' T3 :=
  ⟨x.H1, H, x.H3, fun p hp => (List.mem_append.mp hp).elim (hn p) (x.ok p), fun p hp q hq => o p (by simp [hp]) q hq, x.o13, fun p hp q hq => (o q (by simp [hq]) p hp).symm⟩
theorem LW.n2' {T2' Rn : List (Addr × Obj)} (N : News h₀ L h ((Rn ++ (R ++ (T1 ++ T3))) ++ T2')) : News h₀ L h ((Rn ++ R) ++ (T1 ++ (T2' ++ T3))) := news_sub N fun p hp => by
  simp only [List.mem_append] at hp ⊢
  rcases hp with (a | a) | a | a | a <;> simp [a]
theorem LW.of3 {T3' : List (Addr × Obj)} {f : Addr} {fo : Obj} (x : LW R T1 T2 T3) (H : TabG 261 (fun _ => qLw) T3') (o : ∀ p ∈ R ++ (T1 ++ T2), ∀ q ∈ T3', p.1 ≠ q.1) (hf : okO fo = true) : LW ((f, fo) :: R) T1 T2 T3' :=
  ⟨x.H1, x.H2, H, fun p hp => by
    rcases List.mem_cons.mp hp with rfl | hp
    · exact hf
    · exact x.ok p hp, x.o12, fun p hp q hq => o p (by simp [hp]) q hq, fun p hp q hq => o p (by simp [hp]) q hq⟩
theorem LW.n3' {T3' : List (Addr × Obj)} {f : Addr} {fo : Obj} (N : News h₀ L h ((f, fo) :: ((R ++ (T1 ++ T2)) ++ T3'))) : News h₀ L h (((f, fo) :: R) ++ (T1 ++ (T2 ++ T3'))) := news_sub N fun p hp => by
  simp only [List.mem_append, List.mem_cons] at hp ⊢
  rcases hp with (a | a) | a | a | a <;> simp [a]
/-- a program whose objects stand in the ledger, or in the base -/
noncomputable def PIn (w : World) (loose : List Str) (mean : ExcName → Option Value) (mg mb : Str → Option Value) (h₀ : Heap) (R T2 T3 : List (Addr × Obj)) (q : Addr) (opn clo : List Nat → Nat → Int) : Prop :=
  ∃ A : List (Addr × Obj), (∀ p ∈ A, p ∈ R ∨ (p ∈ T2 ∧ p.1 ≠ 221) ∨ (p ∈ T3 ∧ p.1 ≠ 261) ∨ h₀.get? p.1 = some p.2) ∧ ∀ g : Heap, (∀ p ∈ A, g.get? p.1 = some p.2) → Prg w loose mean mg mb g q opn clo
theorem PIn.mono {w : World} {loose : List Str} {mean : ExcName → Option Value} {mg mb : Str → Option Value} {R' T2' T3' : List (Addr × Obj)} {q : Addr} {opn clo : List Nat → Nat → Int} (x : PIn w loose mean mg mb h₀ R T2 T3 q opn clo)
    (hR : ∀ p ∈ R, p ∈ R') (h2 : TleP 221 T2 T2') (h3 : TleP 261 T3 T3') : PIn w loose mean mg mb h₀ R' T2' T3' q opn clo := by
  obtain ⟨A, a, b⟩ := x
  refine ⟨A, fun p hp => ?_, b⟩
  rcases a p hp with z | z | z | z
  · exact .inl (hR p z)
  · exact .inr (.inl ⟨h2 p z.1 z.2, z.2⟩)
  · exact .inr (.inr (.inl ⟨h3 p z.1 z.2, z.2⟩))
  · exact .inr (.inr (.inr z))
theorem PIn.over {w : World} {loose : List Str} {mean : ExcName → Option Value} {mg mb : Str → Option Value} {R' T2' T3' : List (Addr × Obj)} {q q' : Addr} {opn clo opn' clo' : List Nat → Nat → Int} (x : PIn w loose mean mg mb h₀ R T2 T3 q opn clo) (_y : PIn w loose mean mg mb h₀ R' T2' T3' q' opn' clo')
    (hR : ∀ p ∈ R, p ∈ R') (h2 : TleP 221 T2 T2') (h3 : TleP 261 T3 T3') : PIn w loose mean mg mb h₀ R' T2' T3' q opn clo := x.mono hR h2 h3
theorem PIn.use {w : World} {loose : List Str} {mean : ExcName → Option Value} {mg mb : Str → Option Value} {q : Addr} {opn clo : List Nat → Nat → Int} (x : PIn w loose mean mg mb h₀ R T2 T3 q opn clo)
    (F : Fr h₀ L h m) (N : News h₀ L h (R ++ (T1 ++ (T2 ++ T3)))) (lw : LW R T1 T2 T3) : Prg w loose mean mg mb (hideAll h (T1.map (·.1))) q opn clo := by
  obtain ⟨A, a, b⟩ := x
  have key : ∀ p ∈ R ++ (T2 ++ T3), (hideAll h (T1.map (·.1))).get? p.1 = some p.2 := fun p hp => hideAll_get _ (LW.n1 N p (List.mem_append_left _ hp)).1 fun z => by
    obtain ⟨y, hy, e⟩ := List.mem_map.mp z
    exact lw.off1 N p hp y hy e.symm
  refine b _ fun p hp => ?_
  rcases a p hp with z | z | z | z
  · exact key p (by simp [z])
  · exact key p (by simp [z.1])
  · exact key p (by simp [z.1])
  · exact hide_stays F (fun y hy => N y (by simp [hy])) _ _ z
theorem PIn.of2 (_F : Fr h₀ L h m) {w : World} {loose : List Str} {mean : ExcName → Option Value} {mg mb : Str → Option Value} {q : Addr} {opn clo : List Nat → Nat → Int} {Rn T2' Bo Bc : List (Addr × Obj)}
    (P : ∀ g : Heap, (∀ p ∈ Rn ++ T2'.filter (fun p => p.1 != 221) ++ (Bo ++ Bc), g.get? p.1 = some p.2) → Prg w loose mean mg mb g q opn clo)
    (hB : ∀ p ∈ Bo ++ Bc, p ∈ R ∨ (p ∈ T3 ∧ p.1 ≠ 261) ∨ h₀.get? p.1 = some p.2) : PIn w loose mean mg mb h₀ (Rn ++ R) T2' T3 q opn clo := by
  refine ⟨_, fun p hp => ?_, P⟩
  rcases List.mem_append.mp hp with hp | hp
  · rcases List.mem_append.mp hp with hp | hp
    · exact .inl (List.mem_append_left _ hp)
    · obtain ⟨a, b⟩ := List.mem_filter.mp hp
      exact .inr (.inl ⟨a, by simpa using b⟩)
  · rcases hB p hp with z | z | z
    · exact .inl (List.mem_append_right _ z)
    · exact .inr (.inr (.inl z))
    · exact .inr (.inr (.inr z))
end
/-- a lambda of law with two parameters -/
theorem lam_funOK {w : World} {loose : List Str} {mean : ExcName → Option Value} {mg mb : Str → Option Value} {g h₀' h' : Heap} {L' : Addr} (_Tp : Top topProg loose mean mg mb g) (_X : (hd.heap_1 w.params).In g) {rest T3 : List (Addr × Obj)} {f c' : Addr} {name : Str} {params : Arguments} {body : Expr} {scope : Scope} {cl : List (Str × Addr)} {pm ctv : Value}
    (_N : News h₀' L' h' ((f, kla_obj name qLw params body scope cl pm c' ctv) :: rest)) (hc : HasCodeQ 261 qLw T3 c') (pre : Str → Nat → Prop) (fn : List Nat → Nat → Int) (n1 n2 : Str)
    (hbind : ∀ (x : Str) (tx : Tok) (a : Nat) (ta : Tok), bindArgs (kla_fn name qLw params body scope cl pm (.ref c') ctv) ⟨[.str x tx, .int a ta], []⟩ = pure [(n1, .str x tx), (n2, .int a ta)])
    (h1 : scope.names.lookup n1 = some .local) (h2 : scope.names.lookup n2 = some .local) (hco : scope.isCoroutine = false) (hgen : scope.isGenerator = false) (hk : scope.kind = .function) (hcell : ∀ x ∈ scope.names, x.2 ≠ .cell)
    (hbody : ∀ {dp un : Nat} {fr : Option (List Env)} {gd : Option (List Code)} {s : Shared} {Q : Value → Shared → Prop} {h₀ h₁ : Heap} {L₀ L : Addr} {m₀ : Str → Option Value} {news₀ : List (Addr × Obj)} {x : Str} {a : Nat} {tx ta : Tok}, (hd.heap_1 w.params).In s.heap → Top topProg loose mean mg mb s.heap → Back s.heap h₀ L₀ m₀ news₀ → Fr s.heap L h₁ (fun y => [(n2, Value.int a ta), (n1, Value.str x tx)].lookup y) → News s.heap L h₁ [] → x.length ≤ 64 → pre x a → dp + 3 < recursionLimit → RetI h₀ L₀ m₀ news₀ s Q (fn (cs x) a) →
      wpAny (model PR w) ((Ar dp fr gd un).deeper (envX qLw scope L f (.ref c') cl)) (eval body (envX qLw scope L f (.ref c') cl)) Q (fun _ _ => False) { s with heap := h₁, toks := s.toks + 2 }) :
    ∃ oc, (c', oc) ∈ T3 ∧ c' ≠ 261 ∧ FunOK w loose mean mg mb [(f, kla_obj name qLw params body scope cl pm c' ctv), (c', oc)] f pre fn := by
  obtain ⟨hne, oc, vs, tq, hoc, hocd, hocv⟩ := hc
  refine ⟨oc, hoc, hne, ⟨_, _, _, _, .head _⟩, ?_⟩
  intro dp un fr gd s Q E h₀ L m news x a tx ta F N X Tp hB hx ha hdp ret
  have hq1 := hB _ (.head _)
  have hc1 := hB _ (.tail _ (.head _))
  dsimp only at hq1 hc1
  refine enterL (binds := [(n1, .str x tx), (n2, .int (a : Nat) ta)]) F N X Tp hq1 ⟨c', oc, vs, tq, rfl, hc1, hocd, hocv⟩ (by dsimp only; omega) (hbind x tx a ta) (fun y hy => ?_) (fun L' h' X' T' back F' N' => hbody X' T' back F' N' hx ha hdp ret) hco hgen hk hcell
  simp only [List.mem_cons, List.mem_nil_iff, or_false] at hy
  rcases hy with rfl | rfl
  · exact h1
  · exact h2
section
variable {h₀ h : Heap} {L : Addr} {R T1 T2 T3 T3' : List (Addr × Obj)} {f c' : Addr} {name qual : Str} {params : Arguments} {body : Expr} {scope : Scope} {cl : List (Str × Addr)} {pm ctv : Value}
theorem LW.step3 (x : LW R T1 T2 T3) (N : News h₀ L h ((f, kla_obj name qual params body scope cl pm c' ctv) :: ((R ++ (T1 ++ T2)) ++ T3'))) (H : TabG 261 (fun _ => qLw) T3') (o : ∀ p ∈ R ++ (T1 ++ T2), ∀ q ∈ T3', p.1 ≠ q.1) :
    LW ((f, kla_obj name qual params body scope cl pm c' ctv) :: R) T1 T2 T3' ∧ News h₀ L h (((f, kla_obj name qual params body scope cl pm c' ctv) :: R) ++ (T1 ++ (T2 ++ T3'))) := ⟨x.of3 H o rfl, LW.n3' N⟩
end
theorem opnC_lt (c : Nat) (l : List Nat) (a i : Nat) (h : opnC c l a = (i : Nat)) : i < l.length := by
  unfold opnC at h; split at h <;> omega
theorem opnN_lt (l : List Nat) (a i : Nat) (h : opnN l a = (i : Nat)) : i < l.length := by
  unfold opnN at h; split at h <;> omega
/-- a def of the top as a function of a text and a place -/
theorem top_funOK {w : World} {loose : List Str} {mean : ExcName → Option Value} {mg mb : Str → Option Value} {g : Heap} (_Tp : Top topProg loose mean mg mb g) {f : Addr} {oc : Value} {od : Option Addr} {fd : FuncData} {sl : Array (Option Value)} (X : (hd.heap_1 w.params).In g) (ho : (hd.heap_1 w.params).lookup f = some ⟨oc, od, .func fd, sl⟩) (pre : Str → Nat → Prop) (fn : List Nat → Nat → Int)
    (hcall : ∀ {dp un : Nat} {fr : Option (List Env)} {gd : Option (List Code)} {s : Shared} {Q E : Value → Shared → Prop} {h₀ : Heap} {L : Addr} {m : Str → Option Value} {news : List (Addr × Obj)} {x : Str} {a : Nat} {tx ta : Tok},
      Fr h₀ L s.heap m → News h₀ L s.heap news → (hd.heap_1 w.params).In h₀ → Top topProg loose mean mg mb h₀ → x.length ≤ 64 → pre x a → dp + 3 < recursionLimit → RetI h₀ L m news s Q (fn (cs x) a) →
      wpAny (model PR w) (Ar dp fr gd un) (call (.ref f) [.str x tx, .int (a : Nat) ta]) Q E s) :
    ∃ o, g.get? f = some o ∧ FunOK w loose mean mg mb [(f, o)] f pre fn :=
  ⟨_, X _ _ ho, ⟨_, _, _, _, .head _⟩, fun F N X T _ hx hp hd ret => hcall F N X T hx hp hd ret⟩
/-! a for over a range, the ledger changed by its turns -/
inductive RangeEnd (h₀ : Heap) (L I : Addr) (own : List (Addr × Obj)) (J : (Str → Option Value) → List (Addr × Obj) → Prop) (s : Shared) : Flow → Shared → Prop
  | next (m₂ : Str → Option Value) (news₂ : List (Addr × Obj)) (h' : Heap) (tk' : Nat) : J m₂ news₂ → (∀ p ∈ news₂, p.1 ≠ I) → Fr h₀ L h' m₂ → News h₀ L h' (own ++ news₂) → RangeEnd h₀ L I own J s .next { s with heap := h', toks := tk' }
section
variable {prog : Program} {w : World} {A : Around} {E : Value → Shared → Prop} {s : Shared} {env : Env} {h₀ : Heap} {body : List Stmt} {Q : Flow → Shared → Prop} {x : Str} {px : Pos}
theorem range_turns {r : Addr} {b : Int} {t u v : Tok} {n : Nat} {m₀ : Str → Option Value} {news : List (Addr × Obj)} (J : Nat → (Str → Option Value) → List (Addr × Obj) → Prop) (hh : A.handled = none) (F : Fr h₀ env.locals s.heap m₀) (N : News h₀ env.locals s.heap news)
    (hr : IsRange s.heap r 0 b 1 t u v) (hsm : Builtin.Range.small 0 b 1 = true) (hn : Builtin.Range.rangeSize 0 b 1 = ((n : Nat) : Int)) (hj : J 0 m₀ news)
    (turn : ∀ i m₁ news₁ h tk I own t, i < n → J i m₁ news₁ → (∀ p ∈ own, p.1 = I) → (∃ oI, (I, oI) ∈ own) → (∀ p ∈ news₁, p.1 ≠ I) → Fr h₀ env.locals h m₁ → News h₀ env.locals h (own ++ news₁) →
      wpAny (model prog w) A (assign (.Name x px) env (.int (i : Nat) t)) (fun _ s₂ => wpAny (model prog w) A (execs body env) (RangeEnd h₀ env.locals I own (J (i + 1)) { s with heap := h, toks := tk }) E s₂) E { s with heap := h, toks := tk })
    (done : ∀ m₁ news₁ h tk, J n m₁ news₁ → Fr h₀ env.locals h m₁ → News h₀ env.locals h news₁ → Q .next { s with heap := h, toks := tk }) :
    wpAny (model prog w) A (pyIter (.ref r)) (fun it s₂ => TurnsAt prog w A h₀ env (.Name x px) body Q E it s₂) E s := by
  refine wpAny_pyIter_range hr hsm ?_
  have hLs : @LT.lt Nat _ env.locals s.heap.objs.size := F.ns.lt
  have up : ∀ c o, s.heap.get? c = some o → (s.heap.push { cls := .type "range_iterator", data := .fields #[.int 0 0, .int (Builtin.Range.rangeSize 0 b 1) 0, .int 1 0] }).get? c = some o := fun c o e => Heap.get?_push_of_some _ e
  unfold TurnsAt
  refine ⟨s.heap.objs.size, [s.heap.objs.size], [s.heap.objs.size], n, _, _, _, m₀, news, J, rfl, KTurns.ofWalks (LCg.range_walks hh 0 n) (fun _ _ _ _ _ _ hq => wpAny_pure hq), ?_, ?_, ?_, ?_, F.keeps fun _ _ e => Heap.get?_push_of_some _ e, N.grown fun _ _ e => Heap.get?_push_of_some _ e, hj, ?_, ?_⟩
  · intro hm
    rw [List.mem_singleton.mp hm] at hLs
    exact Nat.lt_irrefl _ hLs
  · intro c hc
    rw [List.mem_singleton.mp hc]
    exact next_is_new F
  · intro p hp hc
    have := Heap.lt_size (N p hp).1
    rw [List.mem_singleton.mp hc] at this
    exact Nat.lt_irrefl _ this
  · show IsRangeIter _ _ _ _ _
    rw [hn]
    simpa using Heap.get?_push_size _ rfl
  · rintro i v m₁ news₁ h₁ tk₁ own hi ⟨t, rfl⟩ hJ hav ho1 ho2 ho3 st F₁ N₁
    rw [Int.zero_add]
    have hI : ∃ oI, (s.heap.objs.size, oI) ∈ own := ⟨_, ho3 _ (.head _) (next_is_new F) _ st⟩
    refine wpAny_mono (turn i m₁ news₁ h₁ tk₁ _ own t hi hJ (fun p hp => List.mem_singleton.mp (ho1 p hp)) hI (fun p hp e => hav p hp (by rw [e]; exact .head _)) F₁ N₁) (fun _ s₂ h₂ => wpAny_mono h₂ (fun f s₃ h₃ => ?_) fun _ _ e => e) fun _ _ e => e
    cases h₃ with
    | next m₂ news₂ h' tk' hJ' hav' F' N' => exact ⟨rfl, h', tk', m₂, _, rfl, F', N', fun p hp z => hav' p hp (List.mem_singleton.mp z), hJ'⟩
  · rintro h₁ tk₁ m₁ news₁ F₁ N₁ - hJ
    exact done m₁ news₁ h₁ tk₁ hJ F₁ N₁
end
theorem LW.cons {R T1 T2 T3 : List (Addr × Obj)} {a : Addr} {o : Obj} (x : LW R T1 T2 T3) (h : okO o = true) : LW ((a, o) :: R) T1 T2 T3 :=
  ⟨x.H1, x.H2, x.H3, fun p hp => by
    rcases List.mem_cons.mp hp with rfl | hp
    · exact h
    · exact x.ok p hp, x.o12, x.o13, x.o23⟩
section
variable {h₀ h : Heap} {L I tu : Addr} {to : Obj} {own R T1 T2 T3 T1' : List (Addr × Obj)}
theorem turn_split (lw : LW R T1 T2 T3) (N : News h₀ L h ((tu, to) :: (own ++ (R ++ (T1 ++ (T2 ++ T3)))))) (ht : okO to = true) (hI1 : ∀ p ∈ own, p.1 = I) (hI3 : ∀ p ∈ R ++ (T1 ++ (T2 ++ T3)), p.1 ≠ I) :
    News h₀ L h (R ++ (T1 ++ (T2 ++ T3))) ∧ News h₀ L h (((tu, to) :: (own ++ (R ++ (T2 ++ T3)))) ++ T1) ∧ (∀ p ∈ (tu, to) :: (own ++ (R ++ (T2 ++ T3))), ∀ q ∈ T1, p.1 ≠ q.1) ∧ (∀ y ∈ (tu, to) :: (own ++ (R ++ (T2 ++ T3))), (hideAll h (T1.map (·.1))).get? y.1 = some y.2) := by
  have NR : News h₀ L h (R ++ (T1 ++ (T2 ++ T3))) := news_sub N fun y hy => .tail _ (List.mem_append_right _ hy)
  have Na : News h₀ L h (((tu, to) :: (own ++ (R ++ (T2 ++ T3)))) ++ T1) := news_sub N fun y hy => by
    rcases List.mem_append.mp hy with hy | hy
    · rcases List.mem_cons.mp hy with rfl | hy
      · exact .head _
      · rcases List.mem_append.mp hy with hy | hy
        · exact .tail _ (List.mem_append_left _ hy)
        · rcases List.mem_append.mp hy with hy | hy
          · exact .tail _ (List.mem_append_right _ (List.mem_append_left _ hy))
          · exact .tail _ (List.mem_append_right _ (List.mem_append_right _ (List.mem_append_right _ hy)))
    · exact .tail _ (List.mem_append_right _ (List.mem_append_right _ (List.mem_append_left _ hy)))
  have off : ∀ p ∈ (tu, to) :: (own ++ (R ++ (T2 ++ T3))), ∀ q ∈ T1, p.1 ≠ q.1 := fun y hy q hq => by
    rcases List.mem_cons.mp hy with rfl | hy
    · exact off_of (own := [(tu, to)]) N lw.H1.bad (fun z hz => .tail _ (List.mem_append_right _ (List.mem_append_right _ (List.mem_append_left _ hz)))) (fun z hz => by rw [List.mem_singleton.mp hz]; exact ⟨.head _, ht⟩) _ (.head _) q hq
    · rcases List.mem_append.mp hy with hy | hy
      · rw [hI1 y hy]
        exact (hI3 q (List.mem_append_right _ (List.mem_append_left _ hq))).symm
      · exact lw.off1 NR y hy q hq
  refine ⟨NR, Na, off, fun y hy => hideAll_get _ (Na y (List.mem_append_left _ hy)).1 fun z => ?_⟩
  obtain ⟨q, hq, e⟩ := List.mem_map.mp z
  exact off y hy q hq e.symm
theorem turn_join (lw : LW R T1 T2 T3) (H : TabL T1') (off : ∀ p ∈ (tu, to) :: (own ++ (R ++ (T2 ++ T3))), ∀ q ∈ T1', p.1 ≠ q.1) (hI2 : ∃ oI, (I, oI) ∈ own) (hI3 : ∀ p ∈ R ++ (T1 ++ (T2 ++ T3)), p.1 ≠ I) :
    LW R T1' T2 T3 ∧ (∀ p ∈ R ++ (T1' ++ (T2 ++ T3)), p.1 ≠ I) ∧ ∀ p ∈ own ++ (R ++ (T1' ++ (T2 ++ T3))), p ∈ ((tu, to) :: (own ++ (R ++ (T2 ++ T3)))) ++ T1' := by
  obtain ⟨oI, hI2⟩ := hI2
  refine ⟨lw.of1 H fun y hy => off y (.tail _ (List.mem_append_right _ hy)), fun y hy => ?_, fun y hy => ?_⟩
  · rcases List.mem_append.mp hy with hy | hy
    · exact hI3 y (List.mem_append_left _ hy)
    · rcases List.mem_append.mp hy with hy | hy
      · exact (off (I, oI) (.tail _ (List.mem_append_left _ hI2)) y hy).symm
      · exact hI3 y (List.mem_append_right _ (List.mem_append_right _ hy))
  · rcases List.mem_append.mp hy with hy | hy
    · exact List.mem_append_left _ (.tail _ (List.mem_append_left _ hy))
    · rcases List.mem_append.mp hy with hy | hy
      · exact List.mem_append_left _ (.tail _ (List.mem_append_right _ (List.mem_append_left _ hy)))
      · rcases List.mem_append.mp hy with hy | hy
        · exact List.mem_append_right _ hy
        · exact List.mem_append_left _ (.tail _ (List.mem_append_right _ (List.mem_append_right _ hy)))
theorem grown_of (lw : LW R T1 T2 T3) (N : News h₀ L h (R ++ (T1 ++ (T2 ++ T3)))) : GrownAll [(218, 214), (225, 221), (265, 261)] h := by
  obtain ⟨p1, m1, -⟩ := lw.H1.tab
  obtain ⟨p2, m2, -⟩ := lw.H2.tab
  obtain ⟨p3, m3, -⟩ := lw.H3.tab
  exact ⟨⟨p1, (N _ (List.mem_append_right _ (List.mem_append_left _ m1))).1⟩, ⟨p2, (N _ (List.mem_append_right _ (List.mem_append_right _ (List.mem_append_left _ m2)))).1⟩, ⟨p3, (N _ (List.mem_append_right _ (List.mem_append_right _ (List.mem_append_right _ m3)))).1⟩, True.intro⟩
end
theorem range_ok (n : Nat) (h : n ≤ 100) : Builtin.Range.small 0 (0 + ((n : Nat) : Int)) 1 = true ∧ Builtin.Range.rangeSize 0 (0 + ((n : Nat) : Int)) 1 = ((n : Nat) : Int) := by
  refine ⟨small_one (by omega) (by omega) (by omega) (by omega), ?_⟩
  rw [rangeSize_nat]; omega

-- part law
theorem reset_law : True := by w_top off; trivial
local macro_rules | `(tactic| k_qdec) => `(tactic| kernel_rfl)
set_option maxHeartbeats 8000000 in
theorem law_ok : PySem.Challenge.rw_ij0128_01.Holds := by
  exact hd ⟨top_all, by
    k_go0
    rename Top topProg _ _ _ _ _ => Tp
    rename Frag.In (hd.heap_1 _) _ => X
    (repeat' (first | (k_unfold; (try dsimp only)) | ((((((((((((fail_if_success (with_reducible show wpAny _ _ (exec (Stmt.While _ _ _ _) _) _ _ _)); (fail_if_success (with_reducible show wpAny _ _ (exec (Stmt.For _ _ _ _ _) _) _ _ _)))); (fail_if_success (with_reducible show InvEndN _ _ _ _ _ _ _)); (fail_if_success (with_reducible show wpAny _ _ (binaryOp Operator.Mult (Value.ref _) _) _ _ _)); (fail_if_success (with_reducible show wpAny _ _ (binaryOp Operator.Add (Value.ref _) _) _ _ _)); (fail_if_success (with_reducible show wpAny _ _ (subscriptTail _ _ (Value.ref _) _) _ _ _)); (fail_if_success (with_reducible show wpAny _ _ (call (Value.builtin "list.pop") _) _ _ _)); (fail_if_success (with_reducible show wpAny _ _ (call (Value.builtin _) [Value.str _ _, Value.ref _]) _ _ _)))); (fail_if_success (with_reducible show wpAny _ _ (call (Value.ref _) (List.cons (Value.ref _) _)) _ _ _)); (fail_if_success (with_reducible show wpAny _ _ (call (Value.ref _) [Value.str _ _, Value.ref _]) _ _ _)))); (fail_if_success (with_reducible show wpAny _ _ (eval (Expr.BoolOp _ _ _) _) _ _ _)); (fail_if_success (with_reducible show wpAny _ _ (eval (Expr.IfExp _ _ _ _) _) _ _ _)); (fail_if_success (with_reducible show wpAny _ _ (compareOp _ (Value.ref _) (Value.ref _)) _ _ _)))); (fail_if_success (with_reducible show wpAny _ _ (call (Value.ref _) _) _ _ _)); (fail_if_success (with_reducible show wpAny _ _ (eval (Expr.Lambda _ _ _ _) _) _ _ _)); (fail_if_success (with_reducible show RangeEnd _ _ _ _ _ _ _ _)); (fail_if_success (with_reducible show wpAny _ _ (pyIter (Value.ref _)) _ _ _)); (fail_if_success (with_reducible show (GoodW _ _ _ _ _ _ _ ∧ GrownAll _ _))))); (first | walk1 | (dsimp only; walk1)))))
    rename Fr _ _ _ _ => F'
    rename News _ _ _ _ => N'
    rename ¬ _ < ((List.length _ : Nat) : Int) => hcond
    rename CodeHd _ _ _ => C
    rename Heap.IsList (ghostOf _ _) _ _ => lifted
    refine path_ok F' N' X Tp (lifted.at fun o e => F'.keep _ _ e) (by assumption) (by omega) (by decide) ?_
    clear F' N'
    intro x hx hok t h tk F' N'
    have hxS : x = S (cs x) := (S_of x).symm
    have hpx : (cs x).length ≤ 11 := by rw [cs_len]; exact hx
    generalize cs x = p at hxS hpx
    subst hxS
    have hxl : (S p).length ≤ 64 := by omega
    have hq : ((Str.ofString "law" ++ ".<locals>." : Str) ++ "<lambda>" : Str) = qLw := by decide +kernel
    have lw : LW [] [(214, tabObj #[])] [(221, tabObj #[])] [(261, tabObj #[])] :=
      ⟨tab_empty _ _, tab_empty _ _, tab_empty _ _, (fun _ h => nomatch h), by decide, by decide, by decide⟩
    obtain ⟨R, T1, T2, T3, lw, N1⟩ : ∃ R T1 T2 T3, LW R T1 T2 T3 ∧ News _ _ _ (R ++ (T1 ++ (T2 ++ T3))) := ⟨_, _, _, _, lw, N'⟩
    clear N'
    (repeat' (first | (k_unfold; (try dsimp only)) | ((((((((((((fail_if_success (with_reducible show wpAny _ _ (exec (Stmt.While _ _ _ _) _) _ _ _)); (fail_if_success (with_reducible show wpAny _ _ (exec (Stmt.For _ _ _ _ _) _) _ _ _)))); (fail_if_success (with_reducible show InvEndN _ _ _ _ _ _ _)); (fail_if_success (with_reducible show wpAny _ _ (binaryOp Operator.Mult (Value.ref _) _) _ _ _)); (fail_if_success (with_reducible show wpAny _ _ (binaryOp Operator.Add (Value.ref _) _) _ _ _)); (fail_if_success (with_reducible show wpAny _ _ (subscriptTail _ _ (Value.ref _) _) _ _ _)); (fail_if_success (with_reducible show wpAny _ _ (call (Value.builtin "list.pop") _) _ _ _)); (fail_if_success (with_reducible show wpAny _ _ (call (Value.builtin _) [Value.str _ _, Value.ref _]) _ _ _)))); (fail_if_success (with_reducible show wpAny _ _ (call (Value.ref _) (List.cons (Value.ref _) _)) _ _ _)); (fail_if_success (with_reducible show wpAny _ _ (call (Value.ref _) [Value.str _ _, Value.ref _]) _ _ _)))); (fail_if_success (with_reducible show wpAny _ _ (eval (Expr.BoolOp _ _ _) _) _ _ _)); (fail_if_success (with_reducible show wpAny _ _ (eval (Expr.IfExp _ _ _ _) _) _ _ _)); (fail_if_success (with_reducible show wpAny _ _ (compareOp _ (Value.ref _) (Value.ref _)) _ _ _)))); (fail_if_success (with_reducible show wpAny _ _ (call (Value.ref _) _) _ _ _)); (fail_if_success (with_reducible show wpAny _ _ (eval (Expr.Lambda _ _ _ _) _) _ _ _)); (fail_if_success (with_reducible show RangeEnd _ _ _ _ _ _ _ _)); (fail_if_success (with_reducible show wpAny _ _ (pyIter (Value.ref _)) _ _ _)); (fail_if_success (with_reducible show (GoodW _ _ _ _ _ _ _ ∧ GrownAll _ _))))); (first | walk1 | (dsimp only; walk1)))))
    rename Fr _ _ _ _ => F'
    rename News _ _ _ _ => N'
    refine kla_eval rfl ?_
    show wpAny _ _ (makeFunction _ ((Str.ofString "law" ++ ".<locals>." : Str) ++ "<lambda>" : Str) _ _ _ _ _ _ _ _ _) _ _ _
    rw [hq]
    refine lam_TO (P := 261) (fun _ _ _ => rfl) (by decide) F' (LW.n3 N') lw.H3 Tp C (lw.off3 N') rfl ?_
    clear F'
    intro f1 c1 ctv h tk T31 H3 le31 hc F' N2 off3
    obtain ⟨oc1, hoc1, hne1, fo1⟩ := lam_funOK Tp X N2 hc (fun x a => a ≤ (cs x).length) (opnC 47) (Str.ofString "chars") (Str.ofString "begin") (fun _ _ _ _ => rfl) rfl rfl rfl rfl rfl (by decide) (by
      clear F' N' N2 X Tp
      intro dp un fr gd s Q h₀ h₁ L₀ L m₀ news₀ x a tx ta X Tp back F' N' hx ha hdp ret
      (repeat' (first | (k_unfold; (try dsimp only)) | ((((fail_if_success (with_reducible show wpAny _ _ (exec (Stmt.While _ _ _ _) _) _ _ _)); (fail_if_success (with_reducible show wpAny _ _ (exec (Stmt.For _ _ _ _ _) _) _ _ _)))); (first | walk1 | (dsimp only; walk1)))))
      refine ret.eq ?_ _ _ _ (Back.fr back (by with_reducible assumption)) (Back.news back (by with_reducible assumption))
      rw [lit_slash, find3_x x _ ha]; rfl)
    obtain ⟨lw2, N3⟩ := lw.step3 N2 H3 off3
    clear N' N2 H3 off3 hc lw
    have lw := lw2
    clear lw2
    (repeat' (first | (k_unfold; (try dsimp only)) | ((((((((((((fail_if_success (with_reducible show wpAny _ _ (exec (Stmt.While _ _ _ _) _) _ _ _)); (fail_if_success (with_reducible show wpAny _ _ (exec (Stmt.For _ _ _ _ _) _) _ _ _)))); (fail_if_success (with_reducible show InvEndN _ _ _ _ _ _ _)); (fail_if_success (with_reducible show wpAny _ _ (binaryOp Operator.Mult (Value.ref _) _) _ _ _)); (fail_if_success (with_reducible show wpAny _ _ (binaryOp Operator.Add (Value.ref _) _) _ _ _)); (fail_if_success (with_reducible show wpAny _ _ (subscriptTail _ _ (Value.ref _) _) _ _ _)); (fail_if_success (with_reducible show wpAny _ _ (call (Value.builtin "list.pop") _) _ _ _)); (fail_if_success (with_reducible show wpAny _ _ (call (Value.builtin _) [Value.str _ _, Value.ref _]) _ _ _)))); (fail_if_success (with_reducible show wpAny _ _ (call (Value.ref _) (List.cons (Value.ref _) _)) _ _ _)); (fail_if_success (with_reducible show wpAny _ _ (call (Value.ref _) [Value.str _ _, Value.ref _]) _ _ _)))); (fail_if_success (with_reducible show wpAny _ _ (eval (Expr.BoolOp _ _ _) _) _ _ _)); (fail_if_success (with_reducible show wpAny _ _ (eval (Expr.IfExp _ _ _ _) _) _ _ _)); (fail_if_success (with_reducible show wpAny _ _ (compareOp _ (Value.ref _) (Value.ref _)) _ _ _)))); (fail_if_success (with_reducible show wpAny _ _ (call (Value.ref _) _) _ _ _)); (fail_if_success (with_reducible show wpAny _ _ (eval (Expr.Lambda _ _ _ _) _) _ _ _)); (fail_if_success (with_reducible show RangeEnd _ _ _ _ _ _ _ _)); (fail_if_success (with_reducible show wpAny _ _ (pyIter (Value.ref _)) _ _ _)); (fail_if_success (with_reducible show (GoodW _ _ _ _ _ _ _ ∧ GrownAll _ _))))); (first | walk1 | (dsimp only; walk1)))))
    rename Fr _ _ _ _ => F'
    rename News _ _ _ _ => N'
    refine kla_eval rfl ?_
    show wpAny _ _ (makeFunction _ ((Str.ofString "law" ++ ".<locals>." : Str) ++ "<lambda>" : Str) _ _ _ _ _ _ _ _ _) _ _ _
    rw [hq]
    refine lam_TO (P := 261) (fun _ _ _ => rfl) (by decide) F' (LW.n3 N') lw.H3 Tp C (lw.off3 N') rfl ?_
    clear F'
    intro f2 c2 ctv h tk T32 H3 le32 hc F' N2 off3
    obtain ⟨oc2, hoc2, hne2, fo2⟩ := lam_funOK Tp X N2 hc (fun x a => a < (cs x).length) (clo1) (Str.ofString "chars") (Str.ofString "at") (fun _ _ _ _ => rfl) rfl rfl rfl rfl rfl (by decide) (by
      clear F' N' N2 X Tp
      intro dp un fr gd s Q h₀ h₁ L₀ L m₀ news₀ x a tx ta X Tp back F' N' hx ha hdp ret
      (repeat' (first | (k_unfold; (try dsimp only)) | ((((fail_if_success (with_reducible show wpAny _ _ (exec (Stmt.While _ _ _ _) _) _ _ _)); (fail_if_success (with_reducible show wpAny _ _ (exec (Stmt.For _ _ _ _ _) _) _ _ _)))); (first | walk1 | (dsimp only; walk1)))))
      exact ret _ _ _ (Back.fr back (by with_reducible assumption)) (Back.news back (by with_reducible assumption)))
    obtain ⟨lw2, N3⟩ := lw.step3 N2 H3 off3
    clear N' N2 H3 off3 hc lw
    have lw := lw2
    clear lw2
    (repeat' (first | (k_unfold; (try dsimp only)) | ((((((((((((fail_if_success (with_reducible show wpAny _ _ (exec (Stmt.While _ _ _ _) _) _ _ _)); (fail_if_success (with_reducible show wpAny _ _ (exec (Stmt.For _ _ _ _ _) _) _ _ _)))); (fail_if_success (with_reducible show InvEndN _ _ _ _ _ _ _)); (fail_if_success (with_reducible show wpAny _ _ (binaryOp Operator.Mult (Value.ref _) _) _ _ _)); (fail_if_success (with_reducible show wpAny _ _ (binaryOp Operator.Add (Value.ref _) _) _ _ _)); (fail_if_success (with_reducible show wpAny _ _ (subscriptTail _ _ (Value.ref _) _) _ _ _)); (fail_if_success (with_reducible show wpAny _ _ (call (Value.builtin "list.pop") _) _ _ _)); (fail_if_success (with_reducible show wpAny _ _ (call (Value.builtin _) [Value.str _ _, Value.ref _]) _ _ _)))); (fail_if_success (with_reducible show wpAny _ _ (call (Value.ref _) (List.cons (Value.ref _) _)) _ _ _)); (fail_if_success (with_reducible show wpAny _ _ (call (Value.ref _) [Value.str _ _, Value.ref _]) _ _ _)))); (fail_if_success (with_reducible show wpAny _ _ (eval (Expr.BoolOp _ _ _) _) _ _ _)); (fail_if_success (with_reducible show wpAny _ _ (eval (Expr.IfExp _ _ _ _) _) _ _ _)); (fail_if_success (with_reducible show wpAny _ _ (compareOp _ (Value.ref _) (Value.ref _)) _ _ _)))); (fail_if_success (with_reducible show wpAny _ _ (call (Value.ref _) _) _ _ _)); (fail_if_success (with_reducible show wpAny _ _ (eval (Expr.Lambda _ _ _ _) _) _ _ _)); (fail_if_success (with_reducible show RangeEnd _ _ _ _ _ _ _ _)); (fail_if_success (with_reducible show wpAny _ _ (pyIter (Value.ref _)) _ _ _)); (fail_if_success (with_reducible show (GoodW _ _ _ _ _ _ _ ∧ GrownAll _ _))))); (first | walk1 | (dsimp only; walk1)))))
    rename Fr _ _ _ _ => F'
    rename News _ _ _ _ => N'
    refine program_ok F' (LW.n2 N') X Tp lw.H2 (lw.off2 N') (by decide) fo1 fo2 (opnC_lt 47) ?_
    clear F' N'
    intro q1 Rn T2n h tk P1 H2 le2 F' N2 off2 okn
    have p1 := PIn.of2 F' (R := (f2, _) :: (f1, _) :: R) (T3 := T32) P1 (fun y hy => by
      simp only [List.cons_append, List.nil_append, List.mem_cons, List.mem_nil_iff, or_false] at hy
      rcases hy with rfl | rfl | rfl | rfl
      · exact .inl (.tail _ (.head _))
      · exact .inr (.inl ⟨le32 _ hoc1 hne1, hne1⟩)
      · exact .inl (.head _)
      · exact .inr (.inl ⟨hoc2, hne2⟩))
    have lw2 := lw.of2 H2 off2 okn
    have N' := LW.n2' N2
    clear lw N2 off2 okn H2 P1 fo1 fo2 hoc1 hoc2 hne1 hne2 le2 le31 le32
    have lw := lw2
    clear lw2
    generalize Rn ++ _ = R1 at *
    (repeat' (first | (k_unfold; (try dsimp only)) | ((((((((((((fail_if_success (with_reducible show wpAny _ _ (exec (Stmt.While _ _ _ _) _) _ _ _)); (fail_if_success (with_reducible show wpAny _ _ (exec (Stmt.For _ _ _ _ _) _) _ _ _)))); (fail_if_success (with_reducible show InvEndN _ _ _ _ _ _ _)); (fail_if_success (with_reducible show wpAny _ _ (binaryOp Operator.Mult (Value.ref _) _) _ _ _)); (fail_if_success (with_reducible show wpAny _ _ (binaryOp Operator.Add (Value.ref _) _) _ _ _)); (fail_if_success (with_reducible show wpAny _ _ (subscriptTail _ _ (Value.ref _) _) _ _ _)); (fail_if_success (with_reducible show wpAny _ _ (call (Value.builtin "list.pop") _) _ _ _)); (fail_if_success (with_reducible show wpAny _ _ (call (Value.builtin _) [Value.str _ _, Value.ref _]) _ _ _)))); (fail_if_success (with_reducible show wpAny _ _ (call (Value.ref _) (List.cons (Value.ref _) _)) _ _ _)); (fail_if_success (with_reducible show wpAny _ _ (call (Value.ref _) [Value.str _ _, Value.ref _]) _ _ _)))); (fail_if_success (with_reducible show wpAny _ _ (eval (Expr.BoolOp _ _ _) _) _ _ _)); (fail_if_success (with_reducible show wpAny _ _ (eval (Expr.IfExp _ _ _ _) _) _ _ _)); (fail_if_success (with_reducible show wpAny _ _ (compareOp _ (Value.ref _) (Value.ref _)) _ _ _)))); (fail_if_success (with_reducible show wpAny _ _ (call (Value.ref _) _) _ _ _)); (fail_if_success (with_reducible show wpAny _ _ (eval (Expr.Lambda _ _ _ _) _) _ _ _)); (fail_if_success (with_reducible show RangeEnd _ _ _ _ _ _ _ _)); (fail_if_success (with_reducible show wpAny _ _ (pyIter (Value.ref _)) _ _ _)); (fail_if_success (with_reducible show (GoodW _ _ _ _ _ _ _ ∧ GrownAll _ _))))); (first | walk1 | (dsimp only; walk1)))))
    rename Fr _ _ _ _ => F'
    rename News _ _ _ _ => N'
    refine kla_eval rfl ?_
    show wpAny _ _ (makeFunction _ ((Str.ofString "law" ++ ".<locals>." : Str) ++ "<lambda>" : Str) _ _ _ _ _ _ _ _ _) _ _ _
    rw [hq]
    refine lam_TO (P := 261) (fun _ _ _ => rfl) (by decide) F' (LW.n3 N') lw.H3 Tp C (lw.off3 N') rfl ?_
    clear F'
    intro f3 c3 ctv h tk T33 H3 le33 hc F' N2 off3
    obtain ⟨oc3, hoc3, hne3, fo3⟩ := lam_funOK Tp X N2 hc (fun x a => a ≤ (cs x).length) (opnC 47) (Str.ofString "chars") (Str.ofString "begin") (fun _ _ _ _ => rfl) rfl rfl rfl rfl rfl (by decide) (by
      clear F' N' N2 X Tp
      intro dp un fr gd s Q h₀ h₁ L₀ L m₀ news₀ x a tx ta X Tp back F' N' hx ha hdp ret
      (repeat' (first | (k_unfold; (try dsimp only)) | ((((fail_if_success (with_reducible show wpAny _ _ (exec (Stmt.While _ _ _ _) _) _ _ _)); (fail_if_success (with_reducible show wpAny _ _ (exec (Stmt.For _ _ _ _ _) _) _ _ _)))); (first | walk1 | (dsimp only; walk1)))))
      refine ret.eq ?_ _ _ _ (Back.fr back (by with_reducible assumption)) (Back.news back (by with_reducible assumption))
      rw [lit_slash, find3_x x _ ha]; rfl)
    obtain ⟨lw2, N3⟩ := lw.step3 N2 H3 off3
    clear N' N2 H3 off3 hc lw
    have lw := lw2
    clear lw2
    (repeat' (first | (k_unfold; (try dsimp only)) | ((((((((((((fail_if_success (with_reducible show wpAny _ _ (exec (Stmt.While _ _ _ _) _) _ _ _)); (fail_if_success (with_reducible show wpAny _ _ (exec (Stmt.For _ _ _ _ _) _) _ _ _)))); (fail_if_success (with_reducible show InvEndN _ _ _ _ _ _ _)); (fail_if_success (with_reducible show wpAny _ _ (binaryOp Operator.Mult (Value.ref _) _) _ _ _)); (fail_if_success (with_reducible show wpAny _ _ (binaryOp Operator.Add (Value.ref _) _) _ _ _)); (fail_if_success (with_reducible show wpAny _ _ (subscriptTail _ _ (Value.ref _) _) _ _ _)); (fail_if_success (with_reducible show wpAny _ _ (call (Value.builtin "list.pop") _) _ _ _)); (fail_if_success (with_reducible show wpAny _ _ (call (Value.builtin _) [Value.str _ _, Value.ref _]) _ _ _)))); (fail_if_success (with_reducible show wpAny _ _ (call (Value.ref _) (List.cons (Value.ref _) _)) _ _ _)); (fail_if_success (with_reducible show wpAny _ _ (call (Value.ref _) [Value.str _ _, Value.ref _]) _ _ _)))); (fail_if_success (with_reducible show wpAny _ _ (eval (Expr.BoolOp _ _ _) _) _ _ _)); (fail_if_success (with_reducible show wpAny _ _ (eval (Expr.IfExp _ _ _ _) _) _ _ _)); (fail_if_success (with_reducible show wpAny _ _ (compareOp _ (Value.ref _) (Value.ref _)) _ _ _)))); (fail_if_success (with_reducible show wpAny _ _ (call (Value.ref _) _) _ _ _)); (fail_if_success (with_reducible show wpAny _ _ (eval (Expr.Lambda _ _ _ _) _) _ _ _)); (fail_if_success (with_reducible show RangeEnd _ _ _ _ _ _ _ _)); (fail_if_success (with_reducible show wpAny _ _ (pyIter (Value.ref _)) _ _ _)); (fail_if_success (with_reducible show (GoodW _ _ _ _ _ _ _ ∧ GrownAll _ _))))); (first | walk1 | (dsimp only; walk1)))))
    rename Fr _ _ _ _ => F'
    rename News _ _ _ _ => N'
    refine kla_eval rfl ?_
    show wpAny _ _ (makeFunction _ ((Str.ofString "law" ++ ".<locals>." : Str) ++ "<lambda>" : Str) _ _ _ _ _ _ _ _ _) _ _ _
    rw [hq]
    refine lam_TO (P := 261) (fun _ _ _ => rfl) (by decide) F' (LW.n3 N') lw.H3 Tp C (lw.off3 N') rfl ?_
    clear F'
    intro f4 c4 ctv h tk T34 H3 le34 hc F' N2 off3
    obtain ⟨oc4, hoc4, hne4, fo4⟩ := lam_funOK Tp X N2 hc (fun x a => a < (cs x).length) (cloR 47) (Str.ofString "chars") (Str.ofString "at") (fun _ _ _ _ => rfl) rfl rfl rfl rfl rfl (by decide) (by
      clear F' N' N2 X Tp
      intro dp un fr gd s Q h₀ h₁ L₀ L m₀ news₀ x a tx ta X Tp back F' N' hx ha hdp ret
      (repeat' (first | (k_unfold; (try dsimp only)) | ((((fail_if_success (with_reducible show wpAny _ _ (exec (Stmt.While _ _ _ _) _) _ _ _)); (fail_if_success (with_reducible show wpAny _ _ (exec (Stmt.For _ _ _ _ _) _) _ _ _)))); (first | walk1 | (dsimp only; walk1)))))
      exact ret _ _ _ (Back.fr back (by with_reducible assumption)) (Back.news back (by with_reducible assumption)))
    obtain ⟨lw2, N3⟩ := lw.step3 N2 H3 off3
    clear N' N2 H3 off3 hc lw
    have lw := lw2
    clear lw2
    (repeat' (first | (k_unfold; (try dsimp only)) | ((((((((((((fail_if_success (with_reducible show wpAny _ _ (exec (Stmt.While _ _ _ _) _) _ _ _)); (fail_if_success (with_reducible show wpAny _ _ (exec (Stmt.For _ _ _ _ _) _) _ _ _)))); (fail_if_success (with_reducible show InvEndN _ _ _ _ _ _ _)); (fail_if_success (with_reducible show wpAny _ _ (binaryOp Operator.Mult (Value.ref _) _) _ _ _)); (fail_if_success (with_reducible show wpAny _ _ (binaryOp Operator.Add (Value.ref _) _) _ _ _)); (fail_if_success (with_reducible show wpAny _ _ (subscriptTail _ _ (Value.ref _) _) _ _ _)); (fail_if_success (with_reducible show wpAny _ _ (call (Value.builtin "list.pop") _) _ _ _)); (fail_if_success (with_reducible show wpAny _ _ (call (Value.builtin _) [Value.str _ _, Value.ref _]) _ _ _)))); (fail_if_success (with_reducible show wpAny _ _ (call (Value.ref _) (List.cons (Value.ref _) _)) _ _ _)); (fail_if_success (with_reducible show wpAny _ _ (call (Value.ref _) [Value.str _ _, Value.ref _]) _ _ _)))); (fail_if_success (with_reducible show wpAny _ _ (eval (Expr.BoolOp _ _ _) _) _ _ _)); (fail_if_success (with_reducible show wpAny _ _ (eval (Expr.IfExp _ _ _ _) _) _ _ _)); (fail_if_success (with_reducible show wpAny _ _ (compareOp _ (Value.ref _) (Value.ref _)) _ _ _)))); (fail_if_success (with_reducible show wpAny _ _ (call (Value.ref _) _) _ _ _)); (fail_if_success (with_reducible show wpAny _ _ (eval (Expr.Lambda _ _ _ _) _) _ _ _)); (fail_if_success (with_reducible show RangeEnd _ _ _ _ _ _ _ _)); (fail_if_success (with_reducible show wpAny _ _ (pyIter (Value.ref _)) _ _ _)); (fail_if_success (with_reducible show (GoodW _ _ _ _ _ _ _ ∧ GrownAll _ _))))); (first | walk1 | (dsimp only; walk1)))))
    rename Fr _ _ _ _ => F'
    rename News _ _ _ _ => N'
    refine program_ok F' (LW.n2 N') X Tp lw.H2 (lw.off2 N') (by decide) fo3 fo4 (opnC_lt 47) ?_
    clear F' N'
    intro q2 Rn T2n h tk P2 H2 le2 F' N2 off2 okn
    have p2 := PIn.of2 F' (R := (f4, _) :: (f3, _) :: R1) (T3 := T34) P2 (fun y hy => by
      simp only [List.cons_append, List.nil_append, List.mem_cons, List.mem_nil_iff, or_false] at hy
      rcases hy with rfl | rfl | rfl | rfl
      · exact .inl (.tail _ (.head _))
      · exact .inr (.inl ⟨le34 _ hoc3 hne3, hne3⟩)
      · exact .inl (.head _)
      · exact .inr (.inl ⟨hoc4, hne4⟩))
    have p1 := p1.over p2 (fun y hy => List.mem_append_right _ (.tail _ (.tail _ hy))) le2 (le33.trans le34)
    have lw2 := lw.of2 H2 off2 okn
    have N' := LW.n2' N2
    clear lw N2 off2 okn H2 P2 fo3 fo4 hoc3 hoc4 hne3 hne4 le2 le33 le34
    have lw := lw2
    clear lw2
    generalize Rn ++ _ = R2 at *
    (repeat' (first | (k_unfold; (try dsimp only)) | ((((((((((((fail_if_success (with_reducible show wpAny _ _ (exec (Stmt.While _ _ _ _) _) _ _ _)); (fail_if_success (with_reducible show wpAny _ _ (exec (Stmt.For _ _ _ _ _) _) _ _ _)))); (fail_if_success (with_reducible show InvEndN _ _ _ _ _ _ _)); (fail_if_success (with_reducible show wpAny _ _ (binaryOp Operator.Mult (Value.ref _) _) _ _ _)); (fail_if_success (with_reducible show wpAny _ _ (binaryOp Operator.Add (Value.ref _) _) _ _ _)); (fail_if_success (with_reducible show wpAny _ _ (subscriptTail _ _ (Value.ref _) _) _ _ _)); (fail_if_success (with_reducible show wpAny _ _ (call (Value.builtin "list.pop") _) _ _ _)); (fail_if_success (with_reducible show wpAny _ _ (call (Value.builtin _) [Value.str _ _, Value.ref _]) _ _ _)))); (fail_if_success (with_reducible show wpAny _ _ (call (Value.ref _) (List.cons (Value.ref _) _)) _ _ _)); (fail_if_success (with_reducible show wpAny _ _ (call (Value.ref _) [Value.str _ _, Value.ref _]) _ _ _)))); (fail_if_success (with_reducible show wpAny _ _ (eval (Expr.BoolOp _ _ _) _) _ _ _)); (fail_if_success (with_reducible show wpAny _ _ (eval (Expr.IfExp _ _ _ _) _) _ _ _)); (fail_if_success (with_reducible show wpAny _ _ (compareOp _ (Value.ref _) (Value.ref _)) _ _ _)))); (fail_if_success (with_reducible show wpAny _ _ (call (Value.ref _) _) _ _ _)); (fail_if_success (with_reducible show wpAny _ _ (eval (Expr.Lambda _ _ _ _) _) _ _ _)); (fail_if_success (with_reducible show RangeEnd _ _ _ _ _ _ _ _)); (fail_if_success (with_reducible show wpAny _ _ (pyIter (Value.ref _)) _ _ _)); (fail_if_success (with_reducible show (GoodW _ _ _ _ _ _ _ ∧ GrownAll _ _))))); (first | walk1 | (dsimp only; walk1)))))
    rename Fr _ _ _ _ => F'
    rename News _ _ _ _ => N'
    refine kla_eval rfl ?_
    show wpAny _ _ (makeFunction _ ((Str.ofString "law" ++ ".<locals>." : Str) ++ "<lambda>" : Str) _ _ _ _ _ _ _ _ _) _ _ _
    rw [hq]
    refine lam_TO (P := 261) (fun _ _ _ => rfl) (by decide) F' (LW.n3 N') lw.H3 Tp C (lw.off3 N') rfl ?_
    clear F'
    intro f5 c5 ctv h tk T35 H3 le35 hc F' N2 off3
    obtain ⟨oc5, hoc5, hne5, fo5⟩ := lam_funOK Tp X N2 hc (fun x a => a ≤ (cs x).length) (opnC 46) (Str.ofString "chars") (Str.ofString "begin") (fun _ _ _ _ => rfl) rfl rfl rfl rfl rfl (by decide) (by
      clear F' N' N2 X Tp
      intro dp un fr gd s Q h₀ h₁ L₀ L m₀ news₀ x a tx ta X Tp back F' N' hx ha hdp ret
      (repeat' (first | (k_unfold; (try dsimp only)) | ((((fail_if_success (with_reducible show wpAny _ _ (exec (Stmt.While _ _ _ _) _) _ _ _)); (fail_if_success (with_reducible show wpAny _ _ (exec (Stmt.For _ _ _ _ _) _) _ _ _)))); (first | walk1 | (dsimp only; walk1)))))
      refine ret.eq ?_ _ _ _ (Back.fr back (by with_reducible assumption)) (Back.news back (by with_reducible assumption))
      rw [lit_dot, find3_x x _ ha]; rfl)
    obtain ⟨lw2, N3⟩ := lw.step3 N2 H3 off3
    clear N' N2 H3 off3 hc lw
    have lw := lw2
    clear lw2
    (repeat' (first | (k_unfold; (try dsimp only)) | ((((((((((((fail_if_success (with_reducible show wpAny _ _ (exec (Stmt.While _ _ _ _) _) _ _ _)); (fail_if_success (with_reducible show wpAny _ _ (exec (Stmt.For _ _ _ _ _) _) _ _ _)))); (fail_if_success (with_reducible show InvEndN _ _ _ _ _ _ _)); (fail_if_success (with_reducible show wpAny _ _ (binaryOp Operator.Mult (Value.ref _) _) _ _ _)); (fail_if_success (with_reducible show wpAny _ _ (binaryOp Operator.Add (Value.ref _) _) _ _ _)); (fail_if_success (with_reducible show wpAny _ _ (subscriptTail _ _ (Value.ref _) _) _ _ _)); (fail_if_success (with_reducible show wpAny _ _ (call (Value.builtin "list.pop") _) _ _ _)); (fail_if_success (with_reducible show wpAny _ _ (call (Value.builtin _) [Value.str _ _, Value.ref _]) _ _ _)))); (fail_if_success (with_reducible show wpAny _ _ (call (Value.ref _) (List.cons (Value.ref _) _)) _ _ _)); (fail_if_success (with_reducible show wpAny _ _ (call (Value.ref _) [Value.str _ _, Value.ref _]) _ _ _)))); (fail_if_success (with_reducible show wpAny _ _ (eval (Expr.BoolOp _ _ _) _) _ _ _)); (fail_if_success (with_reducible show wpAny _ _ (eval (Expr.IfExp _ _ _ _) _) _ _ _)); (fail_if_success (with_reducible show wpAny _ _ (compareOp _ (Value.ref _) (Value.ref _)) _ _ _)))); (fail_if_success (with_reducible show wpAny _ _ (call (Value.ref _) _) _ _ _)); (fail_if_success (with_reducible show wpAny _ _ (eval (Expr.Lambda _ _ _ _) _) _ _ _)); (fail_if_success (with_reducible show RangeEnd _ _ _ _ _ _ _ _)); (fail_if_success (with_reducible show wpAny _ _ (pyIter (Value.ref _)) _ _ _)); (fail_if_success (with_reducible show (GoodW _ _ _ _ _ _ _ ∧ GrownAll _ _))))); (first | walk1 | (dsimp only; walk1)))))
    rename Fr _ _ _ _ => F'
    rename News _ _ _ _ => N'
    refine kla_eval rfl ?_
    show wpAny _ _ (makeFunction _ ((Str.ofString "law" ++ ".<locals>." : Str) ++ "<lambda>" : Str) _ _ _ _ _ _ _ _ _) _ _ _
    rw [hq]
    refine lam_TO (P := 261) (fun _ _ _ => rfl) (by decide) F' (LW.n3 N') lw.H3 Tp C (lw.off3 N') rfl ?_
    clear F'
    intro f6 c6 ctv h tk T36 H3 le36 hc F' N2 off3
    obtain ⟨oc6, hoc6, hne6, fo6⟩ := lam_funOK Tp X N2 hc (fun x a => a < (cs x).length) (cloR 46) (Str.ofString "chars") (Str.ofString "at") (fun _ _ _ _ => rfl) rfl rfl rfl rfl rfl (by decide) (by
      clear F' N' N2 X Tp
      intro dp un fr gd s Q h₀ h₁ L₀ L m₀ news₀ x a tx ta X Tp back F' N' hx ha hdp ret
      (repeat' (first | (k_unfold; (try dsimp only)) | ((((fail_if_success (with_reducible show wpAny _ _ (exec (Stmt.While _ _ _ _) _) _ _ _)); (fail_if_success (with_reducible show wpAny _ _ (exec (Stmt.For _ _ _ _ _) _) _ _ _)))); (first | walk1 | (dsimp only; walk1)))))
      exact ret _ _ _ (Back.fr back (by with_reducible assumption)) (Back.news back (by with_reducible assumption)))
    obtain ⟨lw2, N3⟩ := lw.step3 N2 H3 off3
    clear N' N2 H3 off3 hc lw
    have lw := lw2
    clear lw2
    (repeat' (first | (k_unfold; (try dsimp only)) | ((((((((((((fail_if_success (with_reducible show wpAny _ _ (exec (Stmt.While _ _ _ _) _) _ _ _)); (fail_if_success (with_reducible show wpAny _ _ (exec (Stmt.For _ _ _ _ _) _) _ _ _)))); (fail_if_success (with_reducible show InvEndN _ _ _ _ _ _ _)); (fail_if_success (with_reducible show wpAny _ _ (binaryOp Operator.Mult (Value.ref _) _) _ _ _)); (fail_if_success (with_reducible show wpAny _ _ (binaryOp Operator.Add (Value.ref _) _) _ _ _)); (fail_if_success (with_reducible show wpAny _ _ (subscriptTail _ _ (Value.ref _) _) _ _ _)); (fail_if_success (with_reducible show wpAny _ _ (call (Value.builtin "list.pop") _) _ _ _)); (fail_if_success (with_reducible show wpAny _ _ (call (Value.builtin _) [Value.str _ _, Value.ref _]) _ _ _)))); (fail_if_success (with_reducible show wpAny _ _ (call (Value.ref _) (List.cons (Value.ref _) _)) _ _ _)); (fail_if_success (with_reducible show wpAny _ _ (call (Value.ref _) [Value.str _ _, Value.ref _]) _ _ _)))); (fail_if_success (with_reducible show wpAny _ _ (eval (Expr.BoolOp _ _ _) _) _ _ _)); (fail_if_success (with_reducible show wpAny _ _ (eval (Expr.IfExp _ _ _ _) _) _ _ _)); (fail_if_success (with_reducible show wpAny _ _ (compareOp _ (Value.ref _) (Value.ref _)) _ _ _)))); (fail_if_success (with_reducible show wpAny _ _ (call (Value.ref _) _) _ _ _)); (fail_if_success (with_reducible show wpAny _ _ (eval (Expr.Lambda _ _ _ _) _) _ _ _)); (fail_if_success (with_reducible show RangeEnd _ _ _ _ _ _ _ _)); (fail_if_success (with_reducible show wpAny _ _ (pyIter (Value.ref _)) _ _ _)); (fail_if_success (with_reducible show (GoodW _ _ _ _ _ _ _ ∧ GrownAll _ _))))); (first | walk1 | (dsimp only; walk1)))))
    rename Fr _ _ _ _ => F'
    rename News _ _ _ _ => N'
    refine program_ok F' (LW.n2 N') X Tp lw.H2 (lw.off2 N') (by decide) fo5 fo6 (opnC_lt 46) ?_
    clear F' N'
    intro q3 Rn T2n h tk P3 H2 le2 F' N2 off2 okn
    have p3 := PIn.of2 F' (R := (f6, _) :: (f5, _) :: R2) (T3 := T36) P3 (fun y hy => by
      simp only [List.cons_append, List.nil_append, List.mem_cons, List.mem_nil_iff, or_false] at hy
      rcases hy with rfl | rfl | rfl | rfl
      · exact .inl (.tail _ (.head _))
      · exact .inr (.inl ⟨le36 _ hoc5 hne5, hne5⟩)
      · exact .inl (.head _)
      · exact .inr (.inl ⟨hoc6, hne6⟩))
    have p1 := p1.over p3 (fun y hy => List.mem_append_right _ (.tail _ (.tail _ hy))) le2 (le35.trans le36)
    have p2 := p2.over p3 (fun y hy => List.mem_append_right _ (.tail _ (.tail _ hy))) le2 (le35.trans le36)
    have lw2 := lw.of2 H2 off2 okn
    have N' := LW.n2' N2
    clear lw N2 off2 okn H2 P3 fo5 fo6 hoc5 hoc6 hne5 hne6 le2 le35 le36
    have lw := lw2
    clear lw2
    generalize Rn ++ _ = R3 at *
    (repeat' (first | (k_unfold; (try dsimp only)) | ((((((((((((fail_if_success (with_reducible show wpAny _ _ (exec (Stmt.While _ _ _ _) _) _ _ _)); (fail_if_success (with_reducible show wpAny _ _ (exec (Stmt.For _ _ _ _ _) _) _ _ _)))); (fail_if_success (with_reducible show InvEndN _ _ _ _ _ _ _)); (fail_if_success (with_reducible show wpAny _ _ (binaryOp Operator.Mult (Value.ref _) _) _ _ _)); (fail_if_success (with_reducible show wpAny _ _ (binaryOp Operator.Add (Value.ref _) _) _ _ _)); (fail_if_success (with_reducible show wpAny _ _ (subscriptTail _ _ (Value.ref _) _) _ _ _)); (fail_if_success (with_reducible show wpAny _ _ (call (Value.builtin "list.pop") _) _ _ _)); (fail_if_success (with_reducible show wpAny _ _ (call (Value.builtin _) [Value.str _ _, Value.ref _]) _ _ _)))); (fail_if_success (with_reducible show wpAny _ _ (call (Value.ref _) (List.cons (Value.ref _) _)) _ _ _)); (fail_if_success (with_reducible show wpAny _ _ (call (Value.ref _) [Value.str _ _, Value.ref _]) _ _ _)))); (fail_if_success (with_reducible show wpAny _ _ (eval (Expr.BoolOp _ _ _) _) _ _ _)); (fail_if_success (with_reducible show wpAny _ _ (eval (Expr.IfExp _ _ _ _) _) _ _ _)); (fail_if_success (with_reducible show wpAny _ _ (compareOp _ (Value.ref _) (Value.ref _)) _ _ _)))); (fail_if_success (with_reducible show wpAny _ _ (call (Value.ref _) _) _ _ _)); (fail_if_success (with_reducible show wpAny _ _ (eval (Expr.Lambda _ _ _ _) _) _ _ _)); (fail_if_success (with_reducible show RangeEnd _ _ _ _ _ _ _ _)); (fail_if_success (with_reducible show wpAny _ _ (pyIter (Value.ref _)) _ _ _)); (fail_if_success (with_reducible show (GoodW _ _ _ _ _ _ _ ∧ GrownAll _ _))))); (first | walk1 | (dsimp only; walk1)))))
    rename Fr _ _ _ _ => F'
    rename News _ _ _ _ => N'
    obtain ⟨oN, gN, foN⟩ := top_funOK Tp (f := 205) X (by k_is) (fun x a => a ≤ (cs x).length) opnN (fun F N X T hx ha hdp ret => name_first_ok F N X T hx (by omega) ret)
    obtain ⟨oM, gM, foM⟩ := top_funOK Tp (f := 212) X (by k_is) (fun x a => a < (cs x).length) cloN (fun F N X T hx ha hdp ret => name_behind_ok F N X T hx (Nat.le_of_lt ha) (by omega) ret)
    refine program_ok F' (LW.n2 N') X Tp lw.H2 (lw.off2 N') (by decide) foN foM opnN_lt ?_
    clear F' N'
    intro q4 Rn T2n h tk P4 H2 le2 F' N2 off2 okn
    have p4 := PIn.of2 F' (R := R3) (T3 := T36) P4 (fun y hy => by
      simp only [List.cons_append, List.nil_append, List.mem_cons, List.mem_nil_iff, or_false] at hy
      rcases hy with rfl | rfl
      · exact .inr (.inr gN)
      · exact .inr (.inr gM))
    have p1 := p1.over p4 (fun y hy => List.mem_append_right _ hy) le2 (TleP.refl 261 T36)
    have p2 := p2.over p4 (fun y hy => List.mem_append_right _ hy) le2 (TleP.refl 261 T36)
    have p3 := p3.over p4 (fun y hy => List.mem_append_right _ hy) le2 (TleP.refl 261 T36)
    have lw2 := lw.of2 H2 off2 okn
    have N' := LW.n2' N2
    clear lw N2 off2 okn H2 P4 foN foM gN gM le2
    have lw := lw2
    clear lw2
    generalize Rn ++ _ = R4 at *
    (repeat' (first | (k_unfold; (try dsimp only)) | ((((((((((((fail_if_success (with_reducible show wpAny _ _ (exec (Stmt.While _ _ _ _) _) _ _ _)); (fail_if_success (with_reducible show wpAny _ _ (exec (Stmt.For _ _ _ _ _) _) _ _ _)))); (fail_if_success (with_reducible show InvEndN _ _ _ _ _ _ _)); (fail_if_success (with_reducible show wpAny _ _ (binaryOp Operator.Mult (Value.ref _) _) _ _ _)); (fail_if_success (with_reducible show wpAny _ _ (binaryOp Operator.Add (Value.ref _) _) _ _ _)); (fail_if_success (with_reducible show wpAny _ _ (subscriptTail _ _ (Value.ref _) _) _ _ _)); (fail_if_success (with_reducible show wpAny _ _ (call (Value.builtin "list.pop") _) _ _ _)); (fail_if_success (with_reducible show wpAny _ _ (call (Value.builtin _) [Value.str _ _, Value.ref _]) _ _ _)))); (fail_if_success (with_reducible show wpAny _ _ (call (Value.ref _) (List.cons (Value.ref _) _)) _ _ _)); (fail_if_success (with_reducible show wpAny _ _ (call (Value.ref _) [Value.str _ _, Value.ref _]) _ _ _)))); (fail_if_success (with_reducible show wpAny _ _ (eval (Expr.BoolOp _ _ _) _) _ _ _)); (fail_if_success (with_reducible show wpAny _ _ (eval (Expr.IfExp _ _ _ _) _) _ _ _)); (fail_if_success (with_reducible show wpAny _ _ (compareOp _ (Value.ref _) (Value.ref _)) _ _ _)))); (fail_if_success (with_reducible show wpAny _ _ (call (Value.ref _) _) _ _ _)); (fail_if_success (with_reducible show wpAny _ _ (eval (Expr.Lambda _ _ _ _) _) _ _ _)); (fail_if_success (with_reducible show RangeEnd _ _ _ _ _ _ _ _)); (fail_if_success (with_reducible show wpAny _ _ (pyIter (Value.ref _)) _ _ _)); (fail_if_success (with_reducible show (GoodW _ _ _ _ _ _ _ ∧ GrownAll _ _))))); (first | walk1 | (dsimp only; walk1)))))
    rename Fr _ _ _ _ => F'
    rename News _ _ _ _ => N'
    refine names_ok F' (LW.n1 N') X Tp lw.H1 (lw.off1 N') hxl goodN (PIn.use p4 F' N' lw) (by decide) ?_
    clear F' N'
    intro a1 l5 t1 vs5 n5 T1b h tk hvs5 H1 le1 F' N2 off'
    rw [namesS_law] at hvs5 N2
    dsimp only at hvs5 N2
    have lw2 := lw.of1 H1 (fun y hy => off' y (.tail _ (.tail _ hy)))
    clear lw H1 off'
    have lw := lw2
    clear lw2
    have hr5 : StrsAre vs5.reverse ((pcs p).map S) := by
      have := strs_reverse hvs5
      rwa [List.map_reverse, List.reverse_reverse] at this
    have hpl := pcs_len p
    simp only [List.cons_append] at N2
    (repeat' (first | (k_unfold; (try dsimp only)) | ((((((((((((fail_if_success (with_reducible show wpAny _ _ (exec (Stmt.While _ _ _ _) _) _ _ _)); (fail_if_success (with_reducible show wpAny _ _ (exec (Stmt.For _ _ _ _ _) _) _ _ _)))); (fail_if_success (with_reducible show InvEndN _ _ _ _ _ _ _)); (fail_if_success (with_reducible show wpAny _ _ (binaryOp Operator.Mult (Value.ref _) _) _ _ _)); (fail_if_success (with_reducible show wpAny _ _ (binaryOp Operator.Add (Value.ref _) _) _ _ _)); (fail_if_success (with_reducible show wpAny _ _ (subscriptTail _ _ (Value.ref _) _) _ _ _)); (fail_if_success (with_reducible show wpAny _ _ (call (Value.builtin "list.pop") _) _ _ _)); (fail_if_success (with_reducible show wpAny _ _ (call (Value.builtin _) [Value.str _ _, Value.ref _]) _ _ _)))); (fail_if_success (with_reducible show wpAny _ _ (call (Value.ref _) (List.cons (Value.ref _) _)) _ _ _)); (fail_if_success (with_reducible show wpAny _ _ (call (Value.ref _) [Value.str _ _, Value.ref _]) _ _ _)))); (fail_if_success (with_reducible show wpAny _ _ (eval (Expr.BoolOp _ _ _) _) _ _ _)); (fail_if_success (with_reducible show wpAny _ _ (eval (Expr.IfExp _ _ _ _) _) _ _ _)); (fail_if_success (with_reducible show wpAny _ _ (compareOp _ (Value.ref _) (Value.ref _)) _ _ _)))); (fail_if_success (with_reducible show wpAny _ _ (call (Value.ref _) _) _ _ _)); (fail_if_success (with_reducible show wpAny _ _ (eval (Expr.Lambda _ _ _ _) _) _ _ _)); (fail_if_success (with_reducible show RangeEnd _ _ _ _ _ _ _ _)); (fail_if_success (with_reducible show wpAny _ _ (pyIter (Value.ref _)) _ _ _)); (fail_if_success (with_reducible show (GoodW _ _ _ _ _ _ _ ∧ GrownAll _ _))))); (first | walk1 | (dsimp only; walk1)))))
    rename Fr _ _ _ _ => F'
    rename News _ _ _ _ => N'
    refine item_tupleT (l := [_, _]) ⟨_, (N' _ (.head _)).1, rfl, _, rfl⟩ (by decide) (by decide) (seqIndex_nn (by decide) (by simp)) rfl ?_
    (repeat' (first | (k_unfold; (try dsimp only)) | ((((((((((((fail_if_success (with_reducible show wpAny _ _ (exec (Stmt.While _ _ _ _) _) _ _ _)); (fail_if_success (with_reducible show wpAny _ _ (exec (Stmt.For _ _ _ _ _) _) _ _ _)))); (fail_if_success (with_reducible show InvEndN _ _ _ _ _ _ _)); (fail_if_success (with_reducible show wpAny _ _ (binaryOp Operator.Mult (Value.ref _) _) _ _ _)); (fail_if_success (with_reducible show wpAny _ _ (binaryOp Operator.Add (Value.ref _) _) _ _ _)); (fail_if_success (with_reducible show wpAny _ _ (subscriptTail _ _ (Value.ref _) _) _ _ _)); (fail_if_success (with_reducible show wpAny _ _ (call (Value.builtin "list.pop") _) _ _ _)); (fail_if_success (with_reducible show wpAny _ _ (call (Value.builtin _) [Value.str _ _, Value.ref _]) _ _ _)))); (fail_if_success (with_reducible show wpAny _ _ (call (Value.ref _) (List.cons (Value.ref _) _)) _ _ _)); (fail_if_success (with_reducible show wpAny _ _ (call (Value.ref _) [Value.str _ _, Value.ref _]) _ _ _)))); (fail_if_success (with_reducible show wpAny _ _ (eval (Expr.BoolOp _ _ _) _) _ _ _)); (fail_if_success (with_reducible show wpAny _ _ (eval (Expr.IfExp _ _ _ _) _) _ _ _)); (fail_if_success (with_reducible show wpAny _ _ (compareOp _ (Value.ref _) (Value.ref _)) _ _ _)))); (fail_if_success (with_reducible show wpAny _ _ (call (Value.ref _) _) _ _ _)); (fail_if_success (with_reducible show wpAny _ _ (eval (Expr.Lambda _ _ _ _) _) _ _ _)); (fail_if_success (with_reducible show RangeEnd _ _ _ _ _ _ _ _)); (fail_if_success (with_reducible show wpAny _ _ (pyIter (Value.ref _)) _ _ _)); (fail_if_success (with_reducible show (GoodW _ _ _ _ _ _ _ ∧ GrownAll _ _))))); (first | walk1 | (dsimp only; walk1)))))
    rename Fr _ _ _ _ => F'
    rename News _ _ _ _ => N'
    refine kba_turn (value' := Expr.Name (Str.ofString "x") ⟨0, 0, 0, 0⟩) (fun _ => rfl) ?_
    refine' krv_lit (zs := vs5.reverse) ?F3 ?N3 ?l5 (IsPart.int _ _) rfl ?_ ?s5 ?t5 ?z5
    case F3 => exact F'
    case N3 => exact N'
    case l5 => exact ⟨_, (N' _ (.tail _ (.head _))).1, rfl, _, rfl⟩
    case s5 => with_unfolding_all rfl
    case t5 => kmk_pure
    case z5 => rw [List.size_toArray, hvs5.length, List.length_map, List.length_reverse, sizeLine_eq]; omega
    clear F' N'
    intro D3 h3 F' N2 l3
    have N' : News _ _ _ (((D3, W.listOf vs5.reverse.toArray 0) :: R4) ++ (T1b ++ (T2n ++ T36))) := news_sub N2 fun y hy => by
      simp only [List.cons_append, List.mem_cons, List.mem_append] at hy ⊢
      rcases hy with hy | hy | hy | hy | hy <;> simp [hy]
    have lw2 : LW ((D3, W.listOf vs5.reverse.toArray 0) :: R4) T1b T2n T36 := lw.cons rfl
    clear N2 l3 lw
    have lw := lw2
    clear lw2
    (repeat' (first | (k_unfold; (try dsimp only)) | ((((((((((((fail_if_success (with_reducible show wpAny _ _ (exec (Stmt.While _ _ _ _) _) _ _ _)); (fail_if_success (with_reducible show wpAny _ _ (exec (Stmt.For _ _ _ _ _) _) _ _ _)))); (fail_if_success (with_reducible show InvEndN _ _ _ _ _ _ _)); (fail_if_success (with_reducible show wpAny _ _ (binaryOp Operator.Mult (Value.ref _) _) _ _ _)); (fail_if_success (with_reducible show wpAny _ _ (binaryOp Operator.Add (Value.ref _) _) _ _ _)); (fail_if_success (with_reducible show wpAny _ _ (subscriptTail _ _ (Value.ref _) _) _ _ _)); (fail_if_success (with_reducible show wpAny _ _ (call (Value.builtin "list.pop") _) _ _ _)); (fail_if_success (with_reducible show wpAny _ _ (call (Value.builtin _) [Value.str _ _, Value.ref _]) _ _ _)))); (fail_if_success (with_reducible show wpAny _ _ (call (Value.ref _) (List.cons (Value.ref _) _)) _ _ _)); (fail_if_success (with_reducible show wpAny _ _ (call (Value.ref _) [Value.str _ _, Value.ref _]) _ _ _)))); (fail_if_success (with_reducible show wpAny _ _ (eval (Expr.BoolOp _ _ _) _) _ _ _)); (fail_if_success (with_reducible show wpAny _ _ (eval (Expr.IfExp _ _ _ _) _) _ _ _)); (fail_if_success (with_reducible show wpAny _ _ (compareOp _ (Value.ref _) (Value.ref _)) _ _ _)))); (fail_if_success (with_reducible show wpAny _ _ (call (Value.ref _) _) _ _ _)); (fail_if_success (with_reducible show wpAny _ _ (eval (Expr.Lambda _ _ _ _) _) _ _ _)); (fail_if_success (with_reducible show RangeEnd _ _ _ _ _ _ _ _)); (fail_if_success (with_reducible show wpAny _ _ (pyIter (Value.ref _)) _ _ _)); (fail_if_success (with_reducible show (GoodW _ _ _ _ _ _ _ ∧ GrownAll _ _))))); (first | walk1 | (dsimp only; walk1)))))
    rename Fr _ _ _ _ => F'
    rename News _ _ _ _ => N'
    refine For_turns F' ?_
    (repeat' (first | (k_unfold; (try dsimp only)) | ((((((((((((fail_if_success (with_reducible show wpAny _ _ (exec (Stmt.While _ _ _ _) _) _ _ _)); (fail_if_success (with_reducible show wpAny _ _ (exec (Stmt.For _ _ _ _ _) _) _ _ _)))); (fail_if_success (with_reducible show InvEndN _ _ _ _ _ _ _)); (fail_if_success (with_reducible show wpAny _ _ (binaryOp Operator.Mult (Value.ref _) _) _ _ _)); (fail_if_success (with_reducible show wpAny _ _ (binaryOp Operator.Add (Value.ref _) _) _ _ _)); (fail_if_success (with_reducible show wpAny _ _ (subscriptTail _ _ (Value.ref _) _) _ _ _)); (fail_if_success (with_reducible show wpAny _ _ (call (Value.builtin "list.pop") _) _ _ _)); (fail_if_success (with_reducible show wpAny _ _ (call (Value.builtin _) [Value.str _ _, Value.ref _]) _ _ _)))); (fail_if_success (with_reducible show wpAny _ _ (call (Value.ref _) (List.cons (Value.ref _) _)) _ _ _)); (fail_if_success (with_reducible show wpAny _ _ (call (Value.ref _) [Value.str _ _, Value.ref _]) _ _ _)))); (fail_if_success (with_reducible show wpAny _ _ (eval (Expr.BoolOp _ _ _) _) _ _ _)); (fail_if_success (with_reducible show wpAny _ _ (eval (Expr.IfExp _ _ _ _) _) _ _ _)); (fail_if_success (with_reducible show wpAny _ _ (compareOp _ (Value.ref _) (Value.ref _)) _ _ _)))); (fail_if_success (with_reducible show wpAny _ _ (call (Value.ref _) _) _ _ _)); (fail_if_success (with_reducible show wpAny _ _ (eval (Expr.Lambda _ _ _ _) _) _ _ _)); (fail_if_success (with_reducible show RangeEnd _ _ _ _ _ _ _ _)); (fail_if_success (with_reducible show wpAny _ _ (pyIter (Value.ref _)) _ _ _)); (fail_if_success (with_reducible show (GoodW _ _ _ _ _ _ _ ∧ GrownAll _ _))))); (first | walk1 | (dsimp only; walk1)))))
    rename Fr _ _ _ _ => F'
    rename News _ _ _ _ => N'
    rename IsRange _ _ _ _ _ _ _ _ => hrg
    have hb : ((S p).length : Int) + 1 = 0 + ((p.length + 1 : Nat) : Int) := by rw [S_len]; omega
    rw [hb] at hrg
    have hpo : ∀ c ∈ p, c < 1114112 := by
      have := hok
      unfold PyData.strOk S at this
      simpa using this
    refine range_turns (n := p.length + 1) (fun i m nw => m (Str.ofString "path") = some (.str (S p) t) ∧ m (Str.ofString "slash") = some (.ref q1) ∧ m (Str.ofString "slashes") = some (.ref q2) ∧ m (Str.ofString "dots") = some (.ref q3) ∧ m (Str.ofString "named") = some (.ref q4) ∧ m (Str.ofString "whole") = some (.ref D3) ∧
      ∃ T1c, nw = ((D3, W.listOf vs5.reverse.toArray 0) :: R4) ++ (T1c ++ (T2n ++ T36)) ∧ LW ((D3, W.listOf vs5.reverse.toArray 0) :: R4) T1c T2n T36)
      rfl F' N' hrg (range_ok _ (by omega)).1 (range_ok _ (by omega)).2 ⟨rfl, rfl, rfl, rfl, rfl, rfl, _, rfl, lw⟩ ?turn ?done
    case done =>
      clear F' N' lw hrg hb
      intro m₁ nw h tk hJ F' N'
      obtain ⟨e1, e2, e3, e4, e5, e6, T1c, rfl, lw⟩ := hJ
      (repeat' (first | (k_unfold; (try dsimp only)) | ((((((((((((fail_if_success (with_reducible show wpAny _ _ (exec (Stmt.While _ _ _ _) _) _ _ _)); (fail_if_success (with_reducible show wpAny _ _ (exec (Stmt.For _ _ _ _ _) _) _ _ _)))); (fail_if_success (with_reducible show InvEndN _ _ _ _ _ _ _)); (fail_if_success (with_reducible show wpAny _ _ (binaryOp Operator.Mult (Value.ref _) _) _ _ _)); (fail_if_success (with_reducible show wpAny _ _ (binaryOp Operator.Add (Value.ref _) _) _ _ _)); (fail_if_success (with_reducible show wpAny _ _ (subscriptTail _ _ (Value.ref _) _) _ _ _)); (fail_if_success (with_reducible show wpAny _ _ (call (Value.builtin "list.pop") _) _ _ _)); (fail_if_success (with_reducible show wpAny _ _ (call (Value.builtin _) [Value.str _ _, Value.ref _]) _ _ _)))); (fail_if_success (with_reducible show wpAny _ _ (call (Value.ref _) (List.cons (Value.ref _) _)) _ _ _)); (fail_if_success (with_reducible show wpAny _ _ (call (Value.ref _) [Value.str _ _, Value.ref _]) _ _ _)))); (fail_if_success (with_reducible show wpAny _ _ (eval (Expr.BoolOp _ _ _) _) _ _ _)); (fail_if_success (with_reducible show wpAny _ _ (eval (Expr.IfExp _ _ _ _) _) _ _ _)); (fail_if_success (with_reducible show wpAny _ _ (compareOp _ (Value.ref _) (Value.ref _)) _ _ _)))); (fail_if_success (with_reducible show wpAny _ _ (call (Value.ref _) _) _ _ _)); (fail_if_success (with_reducible show wpAny _ _ (eval (Expr.Lambda _ _ _ _) _) _ _ _)); (fail_if_success (with_reducible show RangeEnd _ _ _ _ _ _ _ _)); (fail_if_success (with_reducible show wpAny _ _ (pyIter (Value.ref _)) _ _ _)); (fail_if_success (with_reducible show (GoodW _ _ _ _ _ _ _ ∧ GrownAll _ _))))); (first | walk1 | (dsimp only; walk1)))))
      rename Fr _ _ _ _ => F'
      rename News _ _ _ _ => N'
      rename Shared.gens _ = #[] => hgens
      refine And.intro (goodW_bool F' hgens (raisesW_false ?_) ?_) (grown_of lw N')
      · wrow_none_raised
      · kc_post
    case turn =>
      clear F' N' lw hrg hb
      intro i m₁ nw h tk I own tt hi hJ hI1 hI2 hI3 F' N'
      obtain ⟨e1, e2, e3, e4, e5, e6, T1c, rfl, lw⟩ := hJ
      replace F' := nam6 F' e1 e2 e3 e4 e5 e6
      clear e1 e2 e3 e4 e5 e6
      (repeat' (first | (k_unfold; (try dsimp only)) | ((((((((((((fail_if_success (with_reducible show wpAny _ _ (exec (Stmt.While _ _ _ _) _) _ _ _)); (fail_if_success (with_reducible show wpAny _ _ (exec (Stmt.For _ _ _ _ _) _) _ _ _)))); (fail_if_success (with_reducible show InvEndN _ _ _ _ _ _ _)); (fail_if_success (with_reducible show wpAny _ _ (binaryOp Operator.Mult (Value.ref _) _) _ _ _)); (fail_if_success (with_reducible show wpAny _ _ (binaryOp Operator.Add (Value.ref _) _) _ _ _)); (fail_if_success (with_reducible show wpAny _ _ (subscriptTail _ _ (Value.ref _) _) _ _ _)); (fail_if_success (with_reducible show wpAny _ _ (call (Value.builtin "list.pop") _) _ _ _)); (fail_if_success (with_reducible show wpAny _ _ (call (Value.builtin _) [Value.str _ _, Value.ref _]) _ _ _)))); (fail_if_success (with_reducible show wpAny _ _ (call (Value.ref _) (List.cons (Value.ref _) _)) _ _ _)); (fail_if_success (with_reducible show wpAny _ _ (call (Value.ref _) [Value.str _ _, Value.ref _]) _ _ _)))); (fail_if_success (with_reducible show wpAny _ _ (eval (Expr.BoolOp _ _ _) _) _ _ _)); (fail_if_success (with_reducible show wpAny _ _ (eval (Expr.IfExp _ _ _ _) _) _ _ _)); (fail_if_success (with_reducible show wpAny _ _ (compareOp _ (Value.ref _) (Value.ref _)) _ _ _)))); (fail_if_success (with_reducible show wpAny _ _ (call (Value.ref _) _) _ _ _)); (fail_if_success (with_reducible show wpAny _ _ (eval (Expr.Lambda _ _ _ _) _) _ _ _)); (fail_if_success (with_reducible show RangeEnd _ _ _ _ _ _ _ _)); (fail_if_success (with_reducible show wpAny _ _ (pyIter (Value.ref _)) _ _ _)); (fail_if_success (with_reducible show (GoodW _ _ _ _ _ _ _ ∧ GrownAll _ _))))); (first | walk1 | (dsimp only; walk1)))))
      rename Fr _ _ _ _ => F'
      rename News _ _ _ _ => N'
      obtain ⟨NR, Na, offa, key⟩ := turn_split lw N' rfl hI1 hI3
      refine agrees_ok F' Na X Tp lw.H1 offa hpx ((p1.mono (fun y hy => .tail _ hy) (TleP.refl 221 _) (TleP.refl 261 _)).use F' NR lw) ((p2.mono (fun y hy => .tail _ hy) (TleP.refl 221 _) (TleP.refl 261 _)).use F' NR lw) ((p3.mono (fun y hy => .tail _ hy) (TleP.refl 221 _) (TleP.refl 261 _)).use F' NR lw) ((p4.mono (fun y hy => .tail _ hy) (TleP.refl 221 _) (TleP.refl 261 _)).use F' NR lw) ⟨_, key _ (.head _), rfl, _, rfl⟩ ⟨_, key (D3, _) (.tail _ (List.mem_append_right _ (List.mem_append_left _ (.head _)))), rfl, _, rfl⟩ hr5 (by omega) hpo (by decide) (by decide) ?_
      clear F' N' NR Na key offa
      intro T1d h tk H1 le F' N2 off'
      obtain ⟨lwd, hI4, hsub⟩ := turn_join lw H1 off' hI2 hI3
      (repeat' (first | (k_unfold; (try dsimp only)) | ((((((((((((fail_if_success (with_reducible show wpAny _ _ (exec (Stmt.While _ _ _ _) _) _ _ _)); (fail_if_success (with_reducible show wpAny _ _ (exec (Stmt.For _ _ _ _ _) _) _ _ _)))); (fail_if_success (with_reducible show InvEndN _ _ _ _ _ _ _)); (fail_if_success (with_reducible show wpAny _ _ (binaryOp Operator.Mult (Value.ref _) _) _ _ _)); (fail_if_success (with_reducible show wpAny _ _ (binaryOp Operator.Add (Value.ref _) _) _ _ _)); (fail_if_success (with_reducible show wpAny _ _ (subscriptTail _ _ (Value.ref _) _) _ _ _)); (fail_if_success (with_reducible show wpAny _ _ (call (Value.builtin "list.pop") _) _ _ _)); (fail_if_success (with_reducible show wpAny _ _ (call (Value.builtin _) [Value.str _ _, Value.ref _]) _ _ _)))); (fail_if_success (with_reducible show wpAny _ _ (call (Value.ref _) (List.cons (Value.ref _) _)) _ _ _)); (fail_if_success (with_reducible show wpAny _ _ (call (Value.ref _) [Value.str _ _, Value.ref _]) _ _ _)))); (fail_if_success (with_reducible show wpAny _ _ (eval (Expr.BoolOp _ _ _) _) _ _ _)); (fail_if_success (with_reducible show wpAny _ _ (eval (Expr.IfExp _ _ _ _) _) _ _ _)); (fail_if_success (with_reducible show wpAny _ _ (compareOp _ (Value.ref _) (Value.ref _)) _ _ _)))); (fail_if_success (with_reducible show wpAny _ _ (call (Value.ref _) _) _ _ _)); (fail_if_success (with_reducible show wpAny _ _ (eval (Expr.Lambda _ _ _ _) _) _ _ _)); (fail_if_success (with_reducible show RangeEnd _ _ _ _ _ _ _ _)); (fail_if_success (with_reducible show wpAny _ _ (pyIter (Value.ref _)) _ _ _)); (fail_if_success (with_reducible show (GoodW _ _ _ _ _ _ _ ∧ GrownAll _ _))))); (first | walk1 | (dsimp only; walk1)))))
      rename Fr _ _ _ _ => F'
      rename News _ _ _ _ => N2
      exact .next _ _ _ _ ⟨rfl, rfl, rfl, rfl, rfl, rfl, T1d, rfl, lwd⟩ hI4 F' (news_sub N2 hsub)⟩

end Mine

set_option maxRecDepth 100000 in
theorem PySem.Challenge.cw_ij0128_01_holds : PySem.Challenge.rw_ij0128_01.Holds := by
  exact Mine.law_ok
