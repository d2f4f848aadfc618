import PyProof.Rows.All
import Wide.All
import OpenK.AllK
import Wide.FinOn
import Lean
import PySem.Challenge.RW_jr0029_01
open PySem PySem.W PyProof.Rows
set_option Elab.async false
set_option maxRecDepth 100000
set_option maxHeartbeats 0
set_option compiler.extract_closed false
namespace Mine
theorem said0 : PySem.Challenge.rw_jr0029_01.wellSaid = true := by
  rewrite [Fast.te9446332074065402090]
  kernel_rfl
section
local macro_rules | `(tactic| o_head $H) => `(tactic| assumption)
/-- this only lays the written part of the heap (Mine.hd.heap_1) -/
theorem hd (_ : PySem.Challenge.rw_jr0029_01.row.Holds) : PySem.Challenge.rw_jr0029_01.row.Holds := by
  k_head
end
/-- the text without its classes: what the head keeps in view -/
def hd.view_39 : Program := PySem.W.view PySem.Challenge.pw_jr0029_01 [0, 1, 4, 5, 6, 8, 9, 10, 11, 12, 13, 14, 15, 16]
theorem boot0 : ∀ w : World, (fencedOpening treeTable PySem.Challenge.pw_jr0029_01 w 5372).map (fun s => (s.heap, s.gens, s.drawn, s.toks)) = some (boot_heap w.params, Array.mk [], boot_drawn, boot_toks) :=
  boot_open (by kernel_rfl!) (by decide +kernel) (fun s => by kernel_rfl!)
theorem left_of {p q : Program} {loose : List Str} {Xt : Shared → Bool} {α : Type} {Yf : Shared → α} {Ya : World → α} {N : Nat} {g0 : Bool}
    (ho : ∀ w : World, (fencedOpening treeTable p w N).map (fun s => (s.heap, s.gens, s.drawn, s.toks)) = some (boot_heap w.params, Array.mk [], boot_drawn, boot_toks))
    (hf : ∀ (w : World) (os : OsState), (topFrom treeTable p (w.withFollow "special-get-raises" false) N ⟨boot_heap (w.withFollow "special-get-raises" false).params, Array.mk [], boot_drawn, boot_toks, os⟩).map (fun s => (openSeen q loose (importedModules p.main.body) Xt g0 s, Yf s)) = some (openGood q loose, Ya (w.withFollow "special-get-raises" false)))
    (ht : ∀ (w : World) (os : OsState), (topFrom treeTable p (w.withFollow "special-get-raises" true) N ⟨boot_heap (w.withFollow "special-get-raises" true).params, Array.mk [], boot_drawn, boot_toks, os⟩).map (fun s => (openSeen q loose (importedModules p.main.body) Xt g0 s, Yf s)) = some (openGood q loose, Ya (w.withFollow "special-get-raises" true))) :
    LeftO p q loose Xt Yf Ya N g0 := by
  have hb : ∀ w : World, ∀ os : OsState, (topFrom treeTable p w N ⟨boot_heap w.params, Array.mk [], boot_drawn, boot_toks, os⟩).map (fun s => (openSeen q loose (importedModules p.main.body) Xt g0 s, Yf s)) = some (openGood q loose, Ya w) :=
    byRow2 "special-get-raises" (P := fun w => ∀ os : OsState, (topFrom treeTable p w N ⟨boot_heap w.params, Array.mk [], boot_drawn, boot_toks, os⟩).map (fun s => (openSeen q loose (importedModules p.main.body) Xt g0 s, Yf s)) = some (openGood q loose, Ya w)) hf ht
  intro w
  obtain ⟨s, hs, hv⟩ := Option.map_eq_some_iff.mp (ho w)
  have h1 := (Prod.mk.inj hv).1
  have h2 := (Prod.mk.inj (Prod.mk.inj hv).2).1
  have h3 := (Prod.mk.inj (Prod.mk.inj (Prod.mk.inj hv).2).2).1
  have h4 := (Prod.mk.inj (Prod.mk.inj (Prod.mk.inj hv).2).2).2
  unfold openEnds
  rw [hs]
  show (topFrom treeTable p w N s).map _ = _
  obtain ⟨hp, g, d, tk, os⟩ := s
  dsimp only at h1 h2 h3 h4
  subst h1; subst h2; subst h3; subst h4
  exact hb w os
noncomputable def asL : List Addr := [2, 3, 15, 17, 18, 20, 21, 22, 25, 30, 31, 32, 34, 35, 37, 38, 39, 40, 41, 42, 52, 53, 54, 55, 56, 59, 61, 62, 64, 65, 66, 68, 69, 71, 72, 80, 81, 82, 83, 84, 85, 87, 88, 90, 91, 92, 94, 95, 97, 98, 99, 101, 102, 104, 105, 106, 108, 109, 111, 112, 113, 115, 116, 118, 119, 120, 122, 123, 125, 126, 127, 129, 130, 132, 133, 134, 136, 137, 139, 140, 141, 143, 144, 146, 147, 148, 150, 151, 153, 154, 155, 157, 158, 160, 161, 162, 164, 165, 167, 168, 169, 171, 172, 174, 175, 176, 178, 179, 181, 182, 183, 185, 186, 188, 189, 190, 191, 193, 194, 196, 197, 198, 200, 201, 203, 204, 205, 206, 208, 209, 211, 212, 213, 214, 216, 217, 219, 220, 221, 223, 224, 226, 227, 228, 230, 231, 233, 234, 235, 237, 238, 240, 241, 242, 244, 245, 247, 248, 249, 250, 252, 253, 255, 256, 257, 259, 260, 262, 263, 264, 265, 267, 268, 270, 271, 272, 274, 275, 277, 278, 279, 281, 282, 284, 285, 286, 288, 289, 291, 292, 293, 295, 296, 298, 299, 300, 302, 303, 305, 306, 307, 309, 310, 312, 313, 314, 315, 316, 317, 318, 321, 323, 324, 326, 327, 328, 330, 331, 333, 334, 335, 337, 338, 340, 341, 342, 344, 345, 347, 348, 349, 351, 352, 354, 355, 356, 358, 359, 361, 362, 363, 365, 366, 368, 369, 370, 373, 374]
theorem asE : ∀ P, asL = (Mine.hd.heap_1 P).map (·.1) := fun P => by kernel_rfl!
theorem runF (w : World) (os : OsState) : (topFrom treeTable PySem.Challenge.pw_jr0029_01 (w.withFollow "special-get-raises" false) 5372 ⟨boot_heap (w.withFollow "special-get-raises" false).params, Array.mk [], boot_drawn, boot_toks, os⟩).map (fun s => (openSeen hd.view_39 [Str.ofString "PyFATException", Str.ofString "errno", Str.ofString "PyFat"] (importedModules PySem.Challenge.pw_jr0029_01.main.body) (fun s => xlAt hd.view_39 [] s && recOk (RowW.records (OpenRow.toRowW (OpenLaw.row PySem.Challenge.rw_jr0029_01))) s) true s, Hook.obs (kHook Mine.hd.heap_1 asL asE) s)) = some (openGood hd.view_39 [Str.ofString "PyFATException", Str.ofString "errno", Str.ofString "PyFat"], Hook.val (kHook Mine.hd.heap_1 asL asE) (w.withFollow "special-get-raises" false)) := by
  unfold topFrom
  rewrite [Fast.te14082659384304107361, Fast.te14364793385576792824]
  kernel_rfl
theorem runT (w : World) (os : OsState) : (topFrom treeTable PySem.Challenge.pw_jr0029_01 (w.withFollow "special-get-raises" true) 5372 ⟨boot_heap (w.withFollow "special-get-raises" true).params, Array.mk [], boot_drawn, boot_toks, os⟩).map (fun s => (openSeen hd.view_39 [Str.ofString "PyFATException", Str.ofString "errno", Str.ofString "PyFat"] (importedModules PySem.Challenge.pw_jr0029_01.main.body) (fun s => xlAt hd.view_39 [] s && recOk (RowW.records (OpenRow.toRowW (OpenLaw.row PySem.Challenge.rw_jr0029_01))) s) true s, Hook.obs (kHook Mine.hd.heap_1 asL asE) s)) = some (openGood hd.view_39 [Str.ofString "PyFATException", Str.ofString "errno", Str.ofString "PyFat"], Hook.val (kHook Mine.hd.heap_1 asL asE) (w.withFollow "special-get-raises" true)) := by
  unfold topFrom
  rewrite [Fast.te14082659384304107361, Fast.te14364793385576792824]
  kernel_rfl
theorem left : LeftO PySem.Challenge.pw_jr0029_01 hd.view_39 [Str.ofString "PyFATException", Str.ofString "errno", Str.ofString "PyFat"] (fun s => xlAt hd.view_39 [] s && recOk (RowW.records (OpenRow.toRowW (OpenLaw.row PySem.Challenge.rw_jr0029_01))) s) (Hook.obs (kHook Mine.hd.heap_1 asL asE)) (Hook.val (kHook Mine.hd.heap_1 asL asE)) 5372 true := left_of boot0 runF runT
open PySem.Calls PySem.Spec
local macro_rules | `(tactic| walk_at "my_name") => `(tactic| first | (with_reducible assumption) | ((with_reducible refine Eq.trans (if_neg (by decide)) ?_); walk_at "my_name"))
local macro_rules | `(tactic| walk_at "my_mem") => `(tactic| first | (with_reducible assumption) | exact List.Mem.head _ | (refine' List.mem_cons_of_mem _ ?_; walk_at "my_mem"))
local macro_rules | `(tactic| k_mem) => `(tactic| walk_at "my_mem")
local macro_rules | `(tactic| walk_at "my_enter") => `(tactic| (refine' code_def ?k1 ?k2 ?k3 ?k4 ?k5 ?kA ?kF ?kK ?k6 ?k7 ?k8 ?k9 ?kB ?_ ?c2 ?c3 ?c4 ?c5; (case kA => exact rfl); (case kF | kK => first | exact rfl | assumption); (case k1 | k2 | k3 | k4 | k5 => k_asm); (case k6 | k7 => k_is); (case k8 => ktr_room); (case k9 => first | exact BindsTo.of_eq rfl | exact binds_K (by k_in) rfl (by k_is) rfl rfl rfl); (case c5 => decide); (case kB => exact locs rfl); (case c2 | c3 | c4 => exact rfl); k_whole; intro g' L' h' FG' F' N' B' X' T'; (try dsimp only); (try k_lift B'); (try k_fold)))
local macro_rules | `(tactic| walk_at "call ref") => `(tactic| (k_here; k_dflt (first
  | (refine' call_cls0 ?k1 ?k2 ?k3 ?k4 ?k5 ?_; (case k1 => k_asm); (case k2 => k_asm); (case k3 => k_asm); (case k4 => k_is); (case k5 => k_is); k_whole; intro x' d' h' F' N' l1 l2; (try k_lt l1); (try k_lt2 l2); (try k_sweep))
  | (refine' call_cls ?k1 ?k2 ?k3 ?k4 ?k5 ?k6 ?_; (case k1 => k_asm); (case k2 => k_asm); (case k3 => k_asm); (case k4 => k_is); (case k5 => k_is); (case k6 => k_is); k_whole; intro x' d' h' F' N' l1 l2; (try k_lt l1); (try k_lt2 l2); (try k_sweep); walk_at "my_enter")
  | (refine' call_meth ?k1 ?k2 ?_; (case k1 => k_asm); (case k2 => k_mem); k_whole; walk_at "my_enter")
  | (refine wpAny_call ?_; walk_at "my_enter"))))
local macro_rules | `(tactic| walk_at "exec For Name Name cons nil") => `(tactic| (k_here; (rename Fr _ _ _ _ => lF'); (with_unfolding_all refine' For_invVF lF' ?k1 ?k2 ?_; (case k1 | k2 => exact rfl); k_whole)))
local macro_rules | `(tactic| walk_at "exec For Name Call cons nil") => `(tactic| (k_here; (rename Fr _ _ _ _ => lF'); (with_unfolding_all refine' For_invVF lF' ?k1 ?k2 ?_; (case k1 | k2 => exact rfl); k_whole)))
local macro_rules | `(tactic| walk_at "binaryOp FloorDiv int int") => `(tactic| (refine floordiv_int (by omega) ?_ (Or.inl (PyProof.noPylong_small (by omega)))))
local macro_rules | `(tactic| walk_at "eval Name") => `(tactic| (k_here; k_dflt (refine' ld ?k1 ?k2 ?_; (case k1 => k_asm); (case k2 => walk_at "my_name"); k_whole)))
local macro_rules | `(tactic| k_all) => `(tactic| with_reducible assumption)
local macro_rules | `(tactic| walk_at "call builtin:len") => `(tactic| (k_here; (with_reducible show wpAny _ _ (call (Value.builtin "len") [Value.ref _]) _ _ _); k_dflt (refine' kst_len ?k1 ?k2 ?k3 ?k4 ?_; (case k1 => k_asm); (case k2 => k_mem); (case k3 => first | with_reducible assumption | exact IntsAre.length (by with_reducible assumption)); (case k4 => omega); k_whole)))
local macro_rules | `(tactic| k_ne) => `(tactic| first | with_reducible assumption | (with_reducible refine Ne.symm ?_; with_reducible assumption))
local macro_rules | `(tactic| omega) => `(tactic| first | (k_whole; with_reducible first | assumption | exact Int.natCast_nonneg _ | exact Int.toNat_natCast _ | exact Nat.zero_le _) | omega +splitDisjunctions)

section
theorem rst_X1 : True := by w_top off; trivial
section
variable {prog : Program} {w : World} {A₀ A : Around} {s : Shared} {base h₀ : Heap} {L : Addr} {m : Str → Option Value} {news : List (Addr × Obj)} {K : Frag} {p : Program} {loose : List Str} {mean : ExcName → Option Value} {mg mb : Str → Option Value}
/-- a call's entry, with the end as it is -/
theorem code_my {env : Env} {outer : List Env} {R : Result → Shared → Prop} {name qual : Str} {params : Arguments} {body : List Stmt} {scope : Scope} {dV kV doc pm cdv ct oc : Value} {an od : Option Addr} {osl : Array (Option Value)} {f : Addr} {args : Args} {binds : List (Str × Value)}
    (B : Below A₀ base outer h₀) (F : Fr h₀ L s.heap m) (X₀ : K.In h₀) (N : News h₀ L s.heap news) (T : Top p loose mean mg mb h₀) (hA : A.frames = some (env :: outer)) (hf : env.frame = some L) (hke : env.scope.kind = .function)
    (ho : K.lookup f = some ⟨oc, od, .func (fnOf name qual params body scope dV kV doc pm an cdv ct), osl⟩) (hcd : codeIn K cdv qual = true) (hroom : A.depth < recursionLimit)
    (hbind : BindsTo s (fnOf name qual params body scope dV kV doc pm an cdv ct) args binds) (hloc : ∀ y ∈ binds, scope.names.lookup y.1 = some .local)
    (h : ∀ g L' h₁, Fr h₀ L g m → Fr g L' h₁ (fun y => binds.reverse.lookup y) → News g L' h₁ news → Below A base (env :: outer) g → K.In g → Top p loose mean mg mb g →
      wpAny (model prog w) (A.deeper (envOf qual scope L' f cdv)) (execs body (envOf qual scope L' f cdv))
        (fun fl s' => R (.ok (.ret (match fl with | .ret v => v | _ => .none))) s')
        (fun e s' => wpAny (model prog w) (A.deeper (envOf qual scope L' f cdv)) (leaving (envOf qual scope L' f cdv) e) (fun _ s'' => R (.error e) s'') (fun e' s'' => R (.error e') s'') s')
        { s with heap := h₁, toks := s.toks + binds.length })
    (hco : scope.isCoroutine = false) (hgen : scope.isGenerator = false) (hk : scope.kind = .function)
    (hcell : ∀ x ∈ scope.names, x.2 ≠ .cell) : codeAny (model prog w) A (.call (.ref f) args) R s := by
  obtain ⟨FG, BG, st, lv⟩ := groundX (R := R) B F N hA hf hke
  refine codeAny_call_def (fd := fnOf name qual params body scope dV kV doc pm an cdv ct) (body := body) (binds := binds) hroom ((X₀.keeps F.keep) _ _ ho) rfl (T.nolimit.keeps F.keep) (codeRec_of (X₀.keeps F.keep) hcd) rfl hbind hcell hloc (fun h₁ hns hk₁ => ?_) hco hgen hk
  exact h _ s.heap.objs.size h₁ FG ⟨hns, fun b o e => hk₁ b o (of_hideAll _ e), Nat.le_of_eq (hideAll_size _ _)⟩
    (fun p hp => ⟨hk₁ _ _ (N p hp).1, Nat.ne_of_lt (Heap.lt_size (N p hp).1), hideAll_none _ (List.mem_map_of_mem hp)⟩) BG (X₀.keeps st) (T.keeps st)
end
section
variable {prog : Program} {w : World} {A₀ : Around} {E : Value → Shared → Prop} {s' : Shared} {g h : Heap} {L a e Lc : Addr} {m : Str → Option Value} {name : Str} {scope : Scope} {cd : Value} {envC : Env} {oc : Obj} {news : List (Addr × Obj)}
  {b₀ : Stmt} {suite : List Stmt} {pos np : Pos} {rest : List ExceptHandler} {Q : Flow → Shared → Prop} {K : Frag} {p : Program} {loose : List Str} {mg mb : Str → Option Value} {Y : String} {x : Str} {Tn : String}
theorem noted_new {M : Model} {A : Around} {base : Heap} {env : Env} {outer : List Env} {L e : Addr} {oe : Obj} {vs : Array Value} {a0 : Value} {Q : Unit → Shared → Prop} {s : Shared}
    (hfr : A.frames = some (env :: outer)) (hl : s.heap.FunFrames base (env :: outer)) (hf : env.frame = some L)
    (he : s.heap.get? e = some oe) (hkb : base.StaysIn s.heap) (hen : base.get? e = none) (hd : oe.data = .fields vs) (h1 : vs[1]? = some .none) (h0 : vs[0]? = some a0)
    (h : ∀ h', Heap.NotedW base (env :: outer) e oe.cls a0 (rawInt L) s.heap h' → Q () { s with heap := h' }) : wpAny M A (noteFrame (.ref e) env) Q E s := by
  unfold noteFrame
  simp only [hf]
  refine wpAny_bind (wpAny_field he hd h1 ?_)
  rw [if_neg (by decide)]
  exact wpAny_entryW hfr hl hf he hkb hen hd (Array.getElem?_eq_some_iff.mp h1).1 h0 h
theorem caught_new (hfr : A₀.frames = some [envC]) (hfC : envC.frame = some Lc) (hkC : envC.scope.kind ≠ .module) (F : Fr g L h m) (N : News g L h ((Lc, oc) :: news)) (hne : ∀ p ∈ news, p.1 ≠ Lc) (hod : ∀ vs, oc.data ≠ .fields vs) (hx : Heap.NewExc h s'.heap e Y)
    (X : K.In g) (T : TopRead p loose mg mb g) (ex : nsIn K mainGlobals x = some none) (hv : bootBuiltins x = some (.type Tn)) (hn' : x ≠ "__name__")
    (hexc : isSubtype (.type Tn) (.type "BaseException") = pure true) (hnt : isSubtype (.type ((Manifest.find? Tn).elim "type" fun y => y.metatype)) (.type "tuple") = pure false) (hsub : isSubtype (.type Y) (.type Tn) = pure true)
    (k : ∀ h' sl, Fr g L h' m → News g L h' ((Lc, { oc with slots := sl }) :: news) →
      wpAny (model prog w) ((A₀.deeper (envOf name scope L a cd)).mark (some (.ref e))) (execs (b₀ :: suite) (envOf name scope L a cd)) Q E { s' with heap := h' })
    (hk : scope.kind = .function) (hxk : (envOf name scope L a cd).kindOf x = some .globalImplicit) (hd : (x == ("__debug__" : Str)) = false)
    (hE : PassesOwnAt (model prog w) ((A₀.deeper (envOf name scope L a cd)).mark (some (.ref e))) (A₀.deeper (envOf name scope L a cd)) (envOf name scope L a cd) E) :
    wpAny (model prog w) (A₀.deeper (envOf name scope L a cd)) (noteFrame (.ref e) (envOf name scope L a cd))
      (fun _ s₂ => wpAny (model prog w) (A₀.deeper (envOf name scope L a cd)) (setFlight (.ref e) none) (fun _ s₃ =>
        wpAny (model prog w) (A₀.deeper (envOf name scope L a cd)) (handleBy (.ref e) (envOf name scope L a cd) (.ExceptHandler (some (.Name x np)) none (b₀ :: suite) pos :: rest)) Q E s₃) E s₂) E s' := by
  obtain ⟨oL, es, ep, hL, hLd, hLk, hLf⟩ := id F.ns
  have hLc := (N _ (.head _)).1
  have hLL : L ≠ Lc := fun q => (N _ (.head _)).2.1 q.symm
  let bs := hideAll h [L, Lc]
  have hbn : ∀ b, bs.get? b = none ∨ h.get? b = bs.get? b := fun b => by
    cases q : bs.get? b with
    | none => exact .inl rfl
    | some o => exact .inr (of_hideAll _ q)
  have hbL : bs.get? L = none := hideAll_none _ (.head _)
  have hbC : bs.get? Lc = none := hideAll_none _ (.tail _ (.head _))
  have hbs : ∀ b o, h.get? b = some o → b ≠ L → b ≠ Lc → bs.get? b = some o := fun b o e n1 n2 => hideAll_get _ e (by simp [n1, n2])
  have st : bs.StaysIn s'.heap := fun b o e => hx.keeps _ _ (of_hideAll _ e)
  have hen : bs.get? e = none := by
    cases q : bs.get? e with
    | none => rfl
    | some o => have := of_hideAll _ q; rw [hx.new] at this; cases this
  obtain ⟨ob, t, he, hcls, hdd⟩ := hx.there
  have hff : s'.heap.FunFrames bs [envOf name scope L a cd, envC] :=
    ⟨by show scope.kind ≠ .module; rw [hk]; decide, ⟨L, oL, rfl, hbL, hx.keeps _ _ hL, fun vs q => by rw [hLd] at q; cases q⟩, hkC, ⟨Lc, oc, hfC, hbC, hx.keeps _ _ hLc, hod⟩, trivial⟩
  refine noted_new (Around.frames_deeper hfr) hff rfl he st hen hdd rfl rfl fun h₄ hN => ?_
  obtain ⟨n1, n2, n3, n4⟩ := hN
  have sm₄ : s'.heap.UpToSlots h₄ := n4
  refine wpAny_landsW (s := { s' with heap := h₄ }) ⟨n1, hen, n2, n3⟩ fun h₅ hfl₅ sm₅ => ?_
  have sm0 : h.UpToSlots s'.heap := Heap.UpToSlots.of_keeps hx.keeps
  have re : ∀ h₆ : Heap, bs.StaysIn h₆ → s'.heap.UpToSlots h₆ → Fr g L h₆ m ∧ ∃ sl, News g L h₆ ((Lc, { oc with slots := sl }) :: news) := fun h₆ k₆ sm => by
    have sm' := sm0.trans sm
    refine ⟨⟨sm'.ns F.ns, fun b o e => k₆ b o (hbs b o (F.keep b o e) (Nat.ne_of_lt (Nat.lt_of_lt_of_le (Heap.lt_size e) F.above)) (fun q => ?_)), F.above⟩, ?_⟩
    · have := (N _ (.head _)).2.2
      rw [q] at e
      rw [this] at e
      cases e
    · obtain ⟨sl, hsl⟩ := sm' Lc oc hLc hod
      refine ⟨sl, fun q hq => ?_⟩
      rcases List.mem_cons.mp hq with rfl | hq
      · exact ⟨hsl, (N _ (.head _)).2⟩
      · have z := N q (.tail _ hq)
        exact ⟨k₆ _ _ (hbs _ _ z.1 z.2.1 (hne q hq)), z.2⟩
  have F₅ := (re h₅ hfl₅.1 (sm₄.trans sm₅)).1
  have hty : ({ s' with heap := h₅ } : Shared).TypeIs (.ref e) Y := by
    obtain ⟨oe, a1, a2⟩ := hfl₅.there
    exact ⟨oe, a1, a2.trans hcls⟩
  refine wpAny_handleBy_builtin (X := Y) (T := Tn) (b := true) hexc hnt hsub (wpAny_passesOwnAt hE (name_B (s := { s' with heap := h₅ }) F₅ X T ex hv hn' ⟨rfl, hty, ?_⟩ hk hxk hd))
  rw [if_pos rfl]
  refine lands_againW (s := { s' with heap := h₅ }) hfl₅ fun h₆ hfl₆ sm₆ => ?_
  obtain ⟨F₆, sl, N₆⟩ := re h₆ hfl₆.1 ((sm₄.trans sm₅).trans sm₆)
  exact wpAny_passesOwnAt hE (k h₆ sl F₆ N₆)
end
/-- an object that holds the names m -/
def ONs (o : Obj) (m : Str → Option Value) : Prop := ∃ es ep, o.data = .dict es ep ∧ StrKeys es ∧ ∀ name, nsFind es name = m name
theorem ONs.of {h : Heap} {a : Addr} {m : Str → Option Value} (x : h.Ns a m) : ∃ o, h.get? a = some o ∧ ONs o m := let ⟨o, es, ep, ho, r⟩ := x; ⟨o, ho, es, ep, r⟩
theorem ONs.ns {h : Heap} {a : Addr} {o : Obj} {m : Str → Option Value} (x : ONs o m) (ho : h.get? a = some o) : h.Ns a m := let ⟨es, ep, r⟩ := x; ⟨o, es, ep, ho, r⟩
theorem ONs.slots {o : Obj} {m : Str → Option Value} {sl : Array (Option Value)} (x : ONs o m) : ONs { o with slots := sl } m := x
theorem ONs.plain {o : Obj} {m : Str → Option Value} (x : ONs o m) : ∀ vs, o.data ≠ .fields vs := fun vs q => by obtain ⟨es, ep, e, _⟩ := x; rw [e] at q; cases q
/-- the caller's frame goes from the base into the ledger -/
theorem rebase {h₀ g h : Heap} {L L' : Addr} {m m' : Str → Option Value} {news : List (Addr × Obj)} (FG : Fr h₀ L g m) (F : Fr g L' h m') (N : News g L' h news) :
    ∃ g₂ oL, Fr g₂ L' h m' ∧ News g₂ L' h ((L, oL) :: news) ∧ ONs oL m ∧ (∀ p ∈ news, p.1 ≠ L) ∧ h₀.StaysIn g₂ := by
  obtain ⟨oL, hoL, hN⟩ := ONs.of FG.ns
  have hLL : L ≠ L' := Nat.ne_of_lt (Nat.lt_of_lt_of_le (Heap.lt_size hoL) F.above)
  have hnL : ∀ p ∈ news, p.1 ≠ L := fun p hp q => by have := (N p hp).2.2; rw [q, hoL] at this; cases this
  refine ⟨hideAll g [L], oL, ⟨F.ns, fun b o e => F.keep b o (of_hideAll _ e), by rw [hideAll_size]; exact F.above⟩, ?_, hN, hnL, fun b o e => hideAll_get _ (FG.keep b o e) ?_⟩
  · intro p hp
    rcases List.mem_cons.mp hp with rfl | hp
    · exact ⟨F.keep _ _ hoL, hLL, hideAll_none _ (.head _)⟩
    · refine ⟨(N p hp).1, (N p hp).2.1, ?_⟩
      cases q : (hideAll g [L]).get? p.1 with
      | none => rfl
      | some o => have := of_hideAll _ q; rw [(N p hp).2.2] at this; cases this
  · intro q
    have q := List.mem_singleton.mp q
    exact absurd (Nat.lt_of_lt_of_le (Heap.lt_size e) FG.above) (by rw [q]; exact Nat.lt_irrefl _)
theorem back {h₀ g₂ h' : Heap} {L L' : Addr} {m mm : Str → Option Value} {oL : Obj} {news' : List (Addr × Obj)} (st : h₀.StaysIn g₂) (ha : h₀.objs.size ≤ L) (F : Fr g₂ L' h' mm) (N : News g₂ L' h' ((L, oL) :: news')) (hN : ONs oL m) (hne : ∀ p ∈ news', p.1 ≠ L) :
    Fr h₀ L h' m ∧ News h₀ L h' news' := by
  refine ⟨⟨hN.ns (N _ (.head _)).1, fun b o e => F.keep b o (st b o e), ha⟩, fun p hp => ⟨(N p (.tail _ hp)).1, hne p hp, ?_⟩⟩
  cases q : h₀.get? p.1 with
  | none => rfl
  | some o => have := (N p (.tail _ hp)).2.2; rw [st _ _ q] at this; cases this
theorem News_rot {h₀ h : Heap} {L : Addr} {a b c : Addr × Obj} {r : List (Addr × Obj)} (N : News h₀ L h (a :: b :: c :: r)) : News h₀ L h (b :: c :: a :: r) := fun q hq => by
  simp only [List.mem_cons] at hq
  rcases hq with rfl | rfl | rfl | hq
  · exact N _ (.tail _ (.head _))
  · exact N _ (.tail _ (.tail _ (.head _)))
  · exact N _ (.head _)
  · exact N _ (.tail _ (.tail _ (.tail _ hq)))
theorem News_rot' {h₀ h : Heap} {L : Addr} {a b c : Addr × Obj} {r : List (Addr × Obj)} (N : News h₀ L h (b :: c :: a :: r)) : News h₀ L h (a :: b :: c :: r) := News_rot (News_rot N)
end
local macro_rules | `(tactic| walk_at "my_enter2") => `(tactic| (refine' code_my ?k1 ?k2 ?k3 ?k4 ?k5 ?kA ?kF ?kK ?k6 ?k7 ?k8 ?k9 ?kB ?_ ?c2 ?c3 ?c4 ?c5; (case kA => exact rfl); (case kF | kK => first | exact rfl | assumption); (case k1 | k2 | k3 | k4 | k5 => k_asm); (case k6 | k7 => k_is); (case k8 => ktr_room); (case k9 => first | exact BindsTo.of_eq rfl | exact binds_K (by k_in) rfl (by k_is) rfl rfl rfl); (case c5 => decide); (case kB => exact locs rfl); (case c2 | c3 | c4 => exact rfl); k_whole; intro g' L' h' FG' F' N' B' X' T'; (try dsimp only); (try k_lift B'); (try k_fold)))
section
theorem rst_X3 : True := by w_top off; trivial
section
open Sem (wp)
variable {prog : Program} {w : World} {A : Around} {E : Value → Shared → Prop} {h : Heap} {g : Array GenState} {d : Drawn} {t : Nat} {os : OsState}
variable {nm q : Str} {C N : Addr} {bs bm : List Value} {hdct : Bool} {sn : List Str} {sub : List Value} {ab : Bool} {col : Option Bool} {dd : Option Addr} {k0 k1 k2 k3 k5 : Option Value} {B newId initId : String}
/-- the words beside the places that an exception is called with here: none, or errno -/
def KwE (kw : List (Str × Value)) : Prop := kw = [] ∨ ∃ v, kw = [(Str.ofString "errno", v)]
theorem check_new_kw (F : ExcBaseFacts B newId initId bm) {M : Model} {rest : List Value} {v : Value} {Q : Unit → Shared → Prop} (hC : h.get? C = some (excClassObj nm q C N bs bm hdct sn sub ab col dd k0 k1 k2 k3 k5 newId))
    (hq : Q () ⟨h, g, d, t, os⟩) : wpAny M A (checkBuiltinCall newId ⟨.ref C :: rest, [(Str.ofString "errno", v)]⟩) Q E ⟨h, g, d, t, os⟩ := by
  have hcont : (Value.ref C :: bm).contains (.type B) = true := by rw [List.contains_cons, F.hasB, Bool.or_true]
  have hstar := F.noStar
  simp only [checkBuiltinCall, F.newKind, F.newSplit, F.newRow]
  repeat (first | refine wpAny_loadPart_at hC ?_ | (refine wpAny_isSubtype_exc hC ?_; rw [hcont]) | refine wpAny_staticBase_exc hC ?_ | refine wpAny_madeBy_exc hC ?_ | simp only [bne_self_eq_false, Bool.false_eq_true, if_false] | wp_step)
  exact hq
theorem exc_new_kw (F : ExcBaseFacts B newId initId bm) {rest : List Value} {v : Value} {R : Result → Shared → Prop} (hC : h.get? C = some (excClassObj nm q C N bs bm hdct sn sub ab col dd k0 k1 k2 k3 k5 newId))
    (hq : R (.ok (.ret (.ref (h.objs.size + 1)))) ⟨(h.push { cls := .type "tuple", data := .seq rest.toArray }).push
      { cls := .ref C, data := .fields #[.ref h.objs.size, .none, .none, .none, .bool false, .none] }, g, d, t, os⟩) (hrest : rest.length ≤ sizeLine := by size_fits) :
    codeAny (model prog w) A (.builtin newId ⟨.ref C :: rest, [(Str.ofString "errno", v)]⟩) R ⟨h, g, d, t, os⟩ := by
  have hends := F.ends
  have hcB : (Value.ref C :: bm).contains (.type B) = true := by rw [List.contains_cons, F.hasB, Bool.or_true]
  have hcA : (Value.ref C :: bm).contains (.type "AttributeError") = false := by rw [List.contains_cons, F.noAttr]; rfl
  have hcN : (Value.ref C :: bm).contains (.type "NameError") = false := by rw [List.contains_cons, F.noName]; rfl
  refine codeAny_builtinAt F.entry ?_
  unfold Builtin.«BaseException.__new__»
  refine PySem.wpAt_bind ?_
  show PySem.wpAt _ _ _ (stack >>= _) _ _ _
  refine PySem.wpAt_bind (PySem.wpAt_stack fun p below => PySem.wpAt_of_wpAny ?_)
  wp_walk
  refine PySem.wpAt_of_wpAny ?_
  rw [F.owner]
  repeat (first | with_reducible refine wpAny_madeHere_exc F.canon hC ?_ | with_reducible refine wpAny_loadPart_at hC ?_ | (with_reducible refine wpAny_isSubtype_exc hC ?_; first | rw [hcB] | rw [hcA] | rw [hcN]) | wp_step)
  show R _ _
  rw [Heap.size_push]
  exact hq
theorem type_call_kw (F : ExcBaseFacts B newId initId bm) {mN : Str → Option Value} {rest : List Value} {v : Value} {fI : Addr} {oI : Obj} {Q : Fin → Shared → Prop}
    (hC : h.get? C = some (excClassObj nm q C N bs bm hdct sn sub ab col dd k0 k1 k2 k3 k5 newId)) (hn : h.Ns N mN) (hi : mN "__init__" = some (.ref fI))
    (hfI : h.get? fI = some oI) (hfc : oI.cls = .type "function")
    (hq : ∀ h' e, Heap.MadeExcOf h h' e (.ref C) rest →
      wpAny (model prog w) A (call (.ref fI) (.ref e :: rest) [(Str.ofString "errno", v)]) (fun r s' => r = .none ∧ Q (.done (.ret (.ref e))) s') E ⟨h', g, d, t, os⟩) (hrest : rest.length ≤ sizeLine := by size_fits) :
    wpAny (model prog w) A (Builtin.«type.__call__» ⟨.ref C :: rest, [(Str.ofString "errno", v)]⟩) Q E ⟨h, g, d, t, os⟩ := by
  repeat (first | with_reducible refine wpAny_loadPart_at hC ?_ | with_reducible refine wpAny_madeBy_exc hC ?_ | wp_step)
  refine codeAny_call_builtin_code (Code.quiet_builtin _ F.quiet) (check_new_kw F hC ?_)
  refine exc_new_kw F hC ?_ hrest
  show wpAny _ _ _ _ _ _
  have up : ∀ b o, h.get? b = some o → ((h.push { cls := .type "tuple", data := .seq rest.toArray }).push { cls := .ref C, data := .fields #[.ref h.objs.size, .none, .none, .none, .bool false, .none] }).get? b = some o := fun b o e => Heap.get?_push_of_some _ (Heap.get?_push_of_some _ e)
  have hC₁ := up _ _ hC
  have hn₁ := hn.at' (up N)
  have hget : ((h.push { cls := .type "tuple", data := .seq rest.toArray }).push
      { cls := .ref C, data := .fields #[.ref h.objs.size, .none, .none, .none, .bool false, .none] }).get? (h.objs.size + 1) = some
      { cls := .ref C, data := .fields #[.ref h.objs.size, .none, .none, .none, .bool false, .none] } := by heap_get
  have hcC : (Value.ref C :: bm).contains (.ref C) = true := by simp
  unfold isInstance
  repeat (first | with_reducible refine wpAny_loadPart_at hget ?_ | (with_reducible refine wpAny_isSubtype_exc hC₁ ?_; rw [hcC]) | wp_step)
  show wpAny _ _ (typeLookup (.ref C) _) _ _ _
  refine wpAny_typeLookup_exc hC₁ hn₁ F.mroIs F.init.lookup ?_
  rw [hi]
  refine wpAny_holding (wpAny_bind ?_)
  unfold bindSpecial
  refine wpAny_bind (wpAny_typeOf (T := "function") ⟨_, up _ _ hfI, hfc⟩ ?_)
  rw [if_pos (by decide)]
  refine wpAny_pure (wpAny_bind (wpAny_mono (hq _ (h.objs.size + 1) ⟨up, Heap.get?_none_of_le (Nat.le_succ _), h.objs.size, hget, Heap.get?_none_of_le (Nat.le_refl _), ?_⟩) (fun r s' hr => ?_) fun _ _ x => x))
  · exact Heap.get?_push_of_some _ (Heap.get?_push_at rfl rfl)
  · obtain ⟨rfl, hQ⟩ := hr
    wp_walk
    exact hQ
theorem check_type_call_kw {M : Model} {rest : List Value} {v : Value} {Q : Unit → Shared → Prop} (hC : h.get? C = some (excClassObj nm q C N bs bm hdct sn sub ab col dd k0 k1 k2 k3 k5 newId))
    (hq : Q () ⟨h, g, d, t, os⟩) : wpAny M A (checkBuiltinCall "type.__call__" ⟨.ref C :: rest, [(Str.ofString "errno", v)]⟩) Q E ⟨h, g, d, t, os⟩ := by
  have f3 := tc_sub
  have hT : (⟨h, g, d, t, os⟩ : Shared).TypeIs (.ref C) "type" := ⟨_, hC, rfl⟩
  simp only [checkBuiltinCall, tc_kind, tc_split]
  repeat (any_goals (first | assumption | with_reducible refine wpAny_loadPart_at hC ?_ | with_reducible refine wpAny_onRaise ?_ | with_reducible refine wpAny_map ?_ | wp_step))
theorem call_exc_kw (F : ExcBaseFacts B newId initId bm) {mN : Str → Option Value} {rest : List Value} {v : Value} {fI : Addr} {oI : Obj} {Q : Value → Shared → Prop}
    (hC : h.get? C = some (excClassObj nm q C N bs bm hdct sn sub ab col dd k0 k1 k2 k3 k5 newId)) (hn : h.Ns N mN) (hi : mN "__init__" = some (.ref fI))
    (hfI : h.get? fI = some oI) (hfc : oI.cls = .type "function")
    (hq : ∀ h' e, Heap.MadeExcOf h h' e (.ref C) rest →
      wpAny (model prog w) (A.under (.builtin "type.__call__" ⟨.ref C :: rest, [(Str.ofString "errno", v)]⟩)) (call (.ref fI) (.ref e :: rest) [(Str.ofString "errno", v)]) (fun r s' => r = .none ∧ Q (.ref e) s') E ⟨h', g, d, t, os⟩) (hrest : rest.length ≤ sizeLine := by size_fits) :
    wpAny (model prog w) A (call (.ref C) rest [(Str.ofString "errno", v)]) Q E ⟨h, g, d, t, os⟩ := by
  have f1 := tc_lookup
  have f2 := tc_bind (.ref C)
  have hT : (⟨h, g, d, t, os⟩ : Shared).TypeIs (.ref C) "type" := ⟨_, hC, rfl⟩
  refine wpAny_call (codeAny_of_tree ?_)
  show wpAny _ _ (callAny (.ref C) _) _ _ _
  repeat (any_goals (first | assumption | with_reducible refine wpAny_loadPart_at hC ?_ | wp_step))
  refine ⟨rfl, ?_⟩
  refine codeAny_call_builtin_at (Code.quiet_builtin _ (by decide +kernel)) entry_typeCall (check_type_call_kw hC (type_call_kw (hrest := hrest) F hC hn hi hfI hfc fun h' e hm => ?_))
  exact hq h' e hm
end
end
section
theorem rst_X4 : True := by w_top off; trivial
section
open Sem (wp)
variable {prog : Program} {w : World} {A : Around} {E : Value → Shared → Prop} {h : Heap} {g : Array GenState} {d : Drawn} {t : Nat} {os : OsState}
variable {nm q : Str} {C N : Addr} {bs bm : List Value} {hdct : Bool} {sn : List Str} {sub : List Value} {ab : Bool} {col : Option Bool} {dd : Option Addr} {k0 k1 k2 k3 k5 : Option Value} {newId : String}
theorem wd_get {x : Addr} {ox : Obj} {Q : Fin → Shared → Prop} (hC : h.get? C = some (excClassObj nm q C N bs bm hdct sn sub ab col dd k0 k1 k2 k3 k5 newId)) (hx : h.get? x = some ox) (hxc : ox.cls = .ref C) (hb : bm.contains (.type "Exception") = true)
    (hq : Q (.done (.ret (.ref h.objs.size))) ⟨h.push { cls := .type "method-wrapper", data := .fields #[.builtin "Exception.__init__", .ref x] }, g, d, t, os⟩) :
    wpAny (model prog w) A (Builtin.«wrapper_descriptor.__get__» ⟨[.builtin "Exception.__init__", .ref x, .ref C], []⟩) Q E ⟨h, g, d, t, os⟩ := by
  have hcB : (Value.ref C :: bm).contains (.type "Exception") = true := by rw [List.contains_cons, hb, Bool.or_true]
  unfold Builtin.«wrapper_descriptor.__get__»
  repeat (first | (with_reducible refine wpAny_loadPart_at hx ?_; rw [hxc]) | (with_reducible refine wpAny_isSubtype_exc hC ?_; rw [hcB]) | wp_step)
  rw [show ".".intercalate ("Exception.__init__".cutAt '.').dropLast = "Exception" from by decide +kernel]
  repeat (first | (with_reducible refine wpAny_isSubtype_exc hC ?_; rw [hcB]) | wp_step)
  exact hq
theorem slot_wd_get : Slot "wrapper_descriptor" "__get__" "wrapper_descriptor.__get__" := .of (owner := "wrapper_descriptor") (n := "__get__") (by rw [typeLookup_type, builtinLookup_eq_fast]; kernel_rfl) (by decide +kernel) (by decide +kernel) (by decide +kernel)
  (by first | exact .inl (by decide +kernel) | exact .inr (by decide +kernel)) (by rw [isSubtype_type]; kernel_rfl)
theorem entry_wd_get : entryFor table "wrapper_descriptor.__get__" = some Builtin.«wrapper_descriptor.__get__» := entryFor_of_tree (by kernel_rfl)
theorem args_wd_get (a b c : Value) : argsOk "wrapper_descriptor.__get__" ⟨[a, b, c], []⟩ := by unfold argsOk; kernel_rfl
theorem type_excInit : typeOf (.builtin "Exception.__init__") = pure (.type "wrapper_descriptor") := by
  simp only [typeOf, builtinType, show withoutEnding? "Exception.__init__" "#opaque" = none from by decide +kernel, show withoutEnding? "Exception.__init__" "#data" = none from by decide +kernel, show builtinKind "Exception.__init__" = some .slot from by decide +kernel]
  rfl
theorem sup_ga {so D x : Addr} {ox : Obj} {l₀ l : List Value} {K : Frag} {tk : Tok} {Q : Fin → Shared → Prop}
    (hso : h.get? so = some { cls := .type "super", dict := none, data := .fields #[.ref D, .ref x, .ref C], slots := #[] }) (hno : Looks (model prog w) h (opaqueClassAbove (.ref C)) none)
    (hC : Looks (model prog w) h (mroOf (.ref C)) l₀) (hl : (l₀.dropWhile (· != .ref D)).drop 1 = l) (X : K.In h)
    (hf : alongIn K (Str.ofString "__init__") l = some (some (.builtin "Exception.__init__"))) (hC' : h.get? C = some (excClassObj nm q C N bs bm hdct sn sub ab col dd k0 k1 k2 k3 k5 newId)) (hb : bm.contains (.type "Exception") = true) (hx : h.get? x = some ox) (hxc : ox.cls = .ref C) (hxC : x ≠ C)
    (hq : Q (.done (.ret (.ref h.objs.size))) ⟨h.push { cls := .type "method-wrapper", data := .fields #[.builtin "Exception.__init__", .ref x] }, g, d, t, os⟩) :
    wpAny (model prog w) A (Builtin.«super.__getattribute__» ⟨[.ref so, .str (Str.ofString "__init__") tk], []⟩) Q E ⟨h, g, d, t, os⟩ := by
  have hlk := slot_wd_get.lookup
  have hty := type_excInit
  have hn : ((Str.ofString "__init__") == ("__class__" : Str)) = false := by decide
  have hne : (Value.ref x == Value.ref C) = false := by simp [hxC]
  have hTf : (⟨h, g, d, t, os⟩ : Shared).TypeIs (.builtin "Exception.__init__") "wrapper_descriptor" := by first | exact type_excInit | exact ⟨rfl, type_excInit⟩ | (unfold Shared.TypeIs; exact type_excInit)
  have hdt : ({ cls := .type "super", dict := none, data := .fields #[.ref D, .ref x, .ref C], slots := #[] } : Obj).data = .fields #[.ref D, .ref x, .ref C] := rfl
  have f0 : (#[.ref D, .ref x, .ref C] : Array Value)[0]? = some (.ref D) := rfl
  have f1 : (#[.ref D, .ref x, .ref C] : Array Value)[1]? = some (.ref x) := rfl
  have f2 : (#[.ref D, .ref x, .ref C] : Array Value)[2]? = some (.ref C) := rfl
  unfold Builtin.«super.__getattribute__»
  repeat (first
    | (with_reducible refine wpAny_field hso hdt f0 ?_) | (with_reducible refine wpAny_field hso hdt f1 ?_) | (with_reducible refine wpAny_field hso hdt f2 ?_)
    | (with_reducible refine ks_wpAny_notOpaque hno ?_)
    | (with_reducible refine Looks.at hC ?_; rw [hl])
    | (refine ks_forIn_along X (fun _ _ => rfl) rfl ?_ hf)
    | (with_reducible refine wpAny_typeOf hTf ?_)
    | (with_reducible refine wpAny_call_entry slot_wd_get hTf entry_wd_get ?_ (args_wd_get _ _ _))
    | (with_reducible refine wd_get hC' hx hxc hb ?_)
    | (with_reducible refine ⟨_, rfl, ?_⟩)
    | (simp only [hn, hne, Bool.or_false, Bool.false_eq_true, if_false])
    | wp_step
    | dsimp only)
  all_goals exact hq
theorem sup_method {so D x : Addr} {ox : Obj} {l₀ l : List Value} {K : Frag} {pl : Sem Bool} {Q : Value × List Value → Shared → Prop}
    (hso : h.get? so = some { cls := .type "super", dict := none, data := .fields #[.ref D, .ref x, .ref C], slots := #[] }) (hno : Looks (model prog w) h (opaqueClassAbove (.ref C)) none)
    (hC : Looks (model prog w) h (mroOf (.ref C)) l₀) (hl : (l₀.dropWhile (· != .ref D)).drop 1 = l) (X : K.In h)
    (hf : alongIn K (Str.ofString "__init__") l = some (some (.builtin "Exception.__init__"))) (hC' : h.get? C = some (excClassObj nm q C N bs bm hdct sn sub ab col dd k0 k1 k2 k3 k5 newId)) (hb : bm.contains (.type "Exception") = true) (hx : h.get? x = some ox) (hxc : ox.cls = .ref C) (hxC : x ≠ C)
    (hq : Q (.ref h.objs.size, []) ⟨h.push { cls := .type "method-wrapper", data := .fields #[.builtin "Exception.__init__", .ref x] }, g, d, t + 1, os⟩) :
    wpAny (model prog w) A (getMethod (.ref so) (Str.ofString "__init__") pl) Q E ⟨h, g, d, t, os⟩ := by
  have hlk := F.ks_slot_super_ga.lookup
  have hcan := F.ks_canon_super_ga
  have hT : ∀ t', (⟨h, g, d, t', os⟩ : Shared).TypeIs (.ref so) "super" := fun _ => ⟨_, hso, rfl⟩
  unfold getMethod
  refine wpAny_bind (wpAny_specialOf (hT _) hlk ?_)
  show wpAny _ _ (if (Manifest.canonical "super.__getattribute__" != "object.__getattribute__") = true then _ else _) _ _ _
  rw [if_pos hcan]
  unfold getAttr getAttrBy
  refine wpAny_bind (wpAny_bind (wpAny_mkText (wpAny_holding (wpAny_bind (wpAny_typeOf (hT _) (wpAny_bind (wpAny_of_eq hlk ?_)))))))
  show wpAny _ _ (getAttrByItsOwn (.ref so) (.str (Str.ofString "__init__") t) (.type "super") (.builtin "super.__getattribute__") true false) _ _ _
  unfold getAttrByItsOwn hookBefore callGetattribute boundAndCalled
  refine wpAny_bind (wpAny_of_eq (show (if onTheHeap (.type "super") then typeLookup (.type "super") "__getattr__" else pure none) = pure none from rfl) ?_)
  refine wpAny_bind (wpAny_attempt (wpAny_holding ?_))
  show wpAny _ _ (bindSpecial (.builtin "super.__getattribute__") (.ref so) >>= _) _ _ _
  refine wpAny_bind (wpAny_of_eq (F.ks_slot_super_ga.bind _) ?_)
  refine wpAny_mono (Q := fun v s' => v = .ref h.objs.size ∧ s' = ⟨h.push { cls := .type "method-wrapper", data := .fields #[.builtin "Exception.__init__", .ref x] }, g, d, t + 1, os⟩) (E := fun _ _ => False)
    (wpAny_call_entry F.ks_slot_super_ga (hT _) F.ks_entry_super_ga (sup_ga hso hno hC hl X hf hC' hb hx hxc hxC ⟨_, rfl, rfl, rfl⟩) (F.ks_gaArgs_super _ _)) (fun v s' hv => ?_) fun _ _ z => z.elim
  obtain ⟨rfl, rfl⟩ := hv
  exact wpAny_pure (wpAny_pure hq)
theorem mw_call {mw x : Addr} {t0 a1 a2 a3 a4 a5 v : Value} {R : Result → Shared → Prop} (hm : h.get? mw = some { cls := .type "method-wrapper", dict := none, data := .fields #[.builtin "Exception.__init__", .ref x], slots := #[] })
    (hC : h.get? C = some (excClassObj nm q C N bs bm hdct sn sub ab col dd k0 k1 k2 k3 k5 newId)) (hb : bm.contains (.type "Exception") = true) (hx : h.get? x = some { cls := .ref C, data := .fields #[t0, a1, a2, a3, a4, a5] }) (ht0 : ∃ a, t0 = .ref a)
    (hq : R (.ok (.ret .none)) ⟨(h.push { cls := .type "tuple", data := .seq #[v] }).update x (Obj.mapFields (·.setIfInBounds 0 (.ref h.objs.size))), g, d, t, os⟩) :
    codeAny (model prog w) A (.call (.ref mw) ⟨[v], []⟩) R ⟨h, g, d, t, os⟩ := by
  obtain ⟨a, rfl⟩ := ht0
  refine codeAny_of_tree ?_
  show wpAny _ A.in1 (callAny (.ref mw) ⟨[v], []⟩) _ _ _
  unfold callAny
  refine wpAny_bind (wpAny_load hm ?_)
  have hF := PySem.F.excBase_Exception
  have hcB : (Value.ref C :: bm).contains (.type "Exception") = true := by rw [List.contains_cons, hb, Bool.or_true]
  have hshort := hF.noStar
  refine wpAny_bind ?_
  show wpAny _ _ (checkBoundCall "Exception.__init__" ⟨[.ref x, v], []⟩) _ _ _
  simp only [checkBoundCall, hF.initKind, hF.initRow]
  rw [if_pos (by decide)]
  repeat (first | (with_reducible refine wpAny_loadPart_at hx ?_) | with_reducible refine wpAny_loadPart_at hC ?_ | (with_reducible refine wpAny_isSubtype_exc hC ?_; rw [hcB]) | wp_step)
  refine ⟨Code.quiet_builtin _ (by decide +kernel), ?_⟩
  refine codeAny_builtin PySem.F.excBase_Exception.initEntry ?_
  wp_walk
  exact hq
end
end
section
theorem rst_A0 : True := by w_top off; trivial
/-- the caller's surroundings -/
abbrev arTop (dp un : Nat) (gd : Option (List Code)) (env : Env) (outer : List Env) : Around := { handled := none, depth := dp, frames := some (env :: outer), guards := gd, units := un }
end
section
theorem rst_X5 : True := by w_top off; trivial
/-- an exception of the text's own, made and not yet flown -/
abbrev eObj (t : Addr) : Obj := { cls := .ref 41, data := .fields #[.ref t, .none, .none, .none, .bool false, .none] }
def erMap (v : Value) : Str → Option Value := fun y => if y = Str.ofString "errno" then some v else none
def ExcO (h : Heap) (e : Addr) (v : Value) : Prop :=
  ∃ D vs sl, h.get? e = some { cls := .ref 41, dict := some D, data := .fields vs, slots := sl } ∧ vs[1]? = some .none ∧ D ≠ e ∧ h.Ns1 D (erMap v)
abbrev c41 : Obj := excClassObj (Str.ofString "PyFATException") (Str.ofString "PyFATException") 41 40 [.type "Exception"] [.type "Exception", .type "BaseException", .type "object"] true [] [] false none none (some (.ref 22)) none (some (.str (Str.ofString "PyFATException") 196)) (some (.str (Str.ofString "PyFATException") 204)) (some (.bool true)) "Exception.__new__"
theorem in41 {P : Params} {h : Heap} (X : (Mine.hd.heap_1 P).In h) : h.get? 41 = some c41 := X 41 c41 (by k_is)
theorem ns40 {P : Params} {h : Heap} (X : (Mine.hd.heap_1 P).In h) : h.Ns 40 (h.nsMap 40) := .of_isNs (isNs_of_in X (by kernel_rfl))
theorem ns40_none {P : Params} {h : Heap} (X : (Mine.hd.heap_1 P).In h) {x : Str} (e : nsIn (Mine.hd.heap_1 P) 40 x = some none) : h.nsMap 40 x = none := nsMap_none_of_in X (by kernel_rfl) e
theorem ns40_init {P : Params} {h : Heap} (X : (Mine.hd.heap_1 P).In h) : h.nsMap 40 (Str.ofString "__init__") = some (.ref 38) := by
  obtain ⟨o, es, ep, ho, hd, _, hf⟩ := ns40 X
  have q := X 40 _ (show List.lookup 40 _ = _ by k_is)
  rw [q] at ho
  cases ho
  cases hd
  rw [← hf]
  rfl
section
variable {prog : Program} {w : World} {A : Around} {s : Shared} {h₀ : Heap} {L : Addr} {m : Str → Option Value} {news : List (Addr × Obj)} {K : Frag}
/-- entry of a def that closes over its class, without the stack's facts -/
theorem ks_noB {R : Result → Shared → Prop} {name qual : Str} {params : Arguments} {body : List Stmt} {scope : Scope} {dV kV doc pm cdv ct oc : Value} {an od : Option Addr} {osl : Array (Option Value)} {f cc : Addr} {args : Args} {binds : List (Str × Value)}
    (F : Fr h₀ L s.heap m) (X₀ : K.In h₀) (N : News h₀ L s.heap news) (hlim : h₀.NoLimit)
    (ho : K.lookup f = some ⟨oc, od, .func (ksFn name qual params body scope dV kV doc pm an cdv ct cc), osl⟩) (hcd : codeIn K cdv qual = true) (hroom : A.depth < recursionLimit)
    (hbind : BindsTo s (ksFn name qual params body scope dV kV doc pm an cdv ct cc) args binds) (hloc : ∀ y ∈ binds, scope.names.lookup y.1 = some .local)
    (h : ∀ L' oL h₁, Fr h₀ L' h₁ (fun y => binds.reverse.lookup y) → News h₀ L' h₁ ((L, oL) :: news) → ONs oL m →
      _root_.PySem.wpAt (model prog w) (A.deeper (ksEnv qual scope L' f cdv cc)) (.func body (ksEnv qual scope L' f cdv cc)) (execs body (ksEnv qual scope L' f cdv cc))
        (fun fl s' => R (.ok (.ret (match fl with | .ret v => v | _ => .none))) s')
        (fun e s' => wpAny (model prog w) (A.deeper (ksEnv qual scope L' f cdv cc)) (leaving (ksEnv qual scope L' f cdv cc) e) (fun _ s'' => R (.error e) s'') (fun e' s'' => R (.error e') s'') s')
        { s with heap := h₁, toks := s.toks + binds.length })
    (hcell : ∀ x ∈ scope.names, x.2 ≠ .cell) (hco : scope.isCoroutine = false) (hgen : scope.isGenerator = false) (hk : scope.kind = .function) : codeAny (model prog w) A (.call (.ref f) args) R s := by
  refine ks_codeAny_call_defAt (fd := ksFn name qual params body scope dV kV doc pm an cdv ct cc) (body := body) (binds := binds) hroom ((X₀.keeps F.keep) _ _ ho) rfl (hlim.keeps F.keep) (codeRec_of (X₀.keeps F.keep) hcd) rfl hbind hcell hloc (fun h₁ hns hk₁ => ?_) hco hgen hk
  obtain ⟨oL, hoL, hON⟩ := ONs.of F.ns
  refine h s.heap.objs.size oL h₁ ⟨hns, fun b o e => hk₁ b o (F.keep b o e), Nat.le_of_lt (Nat.lt_of_le_of_lt F.above F.ns.lt)⟩ (fun p hp => ?_) hON
  rcases List.mem_cons.mp hp with rfl | hp
  · refine ⟨hk₁ _ _ hoL, Nat.ne_of_lt F.ns.lt, ?_⟩
    cases q : h₀.get? L with
    | none => rfl
    | some o => exact absurd (Nat.lt_of_lt_of_le (Heap.lt_size q) F.above) (Nat.lt_irrefl _)
  · exact ⟨hk₁ _ _ (N p hp).1, Nat.ne_of_lt (Heap.lt_size (N p hp).1), (N p hp).2.2⟩
end
set_option linter.all false in
theorem exc_init (w : World) (mean : ExcName → Option Value) (mg mb : Str → Option Value) (news : List (Addr × Obj)) (e t : Addr) (mv v : Value) (kw : List (Str × Value))
   (A : Around) (h₀ : Heap) (L : Addr) (m : Str → Option Value) (s : Shared) (Q E : Value → Shared → Prop)
    (hroom : A.depth < recursionLimit) (F : Fr h₀ L s.heap m) (X : (Mine.hd.heap_1 w.params).In h₀) (N : News h₀ L s.heap ((e, eObj t) :: news)) (T : Top Mine.hd.view_39 (looseW Mine.hd.view_39 [Str.ofString "PyFATException", Str.ofString "errno", Str.ofString "PyFat"]) mean mg mb h₀) (hne : ∀ p ∈ news, p.1 ≠ e)
    (hkw : (kw = [] ∧ v = .none) ∨ kw = [(Str.ofString "errno", v)])
    (hret : ∀ h' tk', Fr h₀ L h' m → News h₀ L h' news → ExcO h' e v → Q .none { s with heap := h', toks := tk' }) :
      wpAny (model PySem.Challenge.rw_jr0029_01.row.prog w) A (call (.ref 38) [.ref e, mv] kw) Q E s := by
  refine wpAny_call ?_
  rcases hkw with ⟨rfl, rfl⟩ | rfl
  all_goals (
    k_dflt (refine' ks_noB (cc := 25) ?k2 ?k3 ?k4 ?k5 ?k6 ?k7 ?k8 ?k9 ?kB ?_ ?c1 ?c2 ?c3 ?c4)
    (case k2 => exact F)
    (case k3 => exact X)
    (case k4 => exact N)
    (case k5 => exact T.nolimit)
    (case k6 => k_is)
    (case k7 => k_is)
    (case k8 => exact hroom)
    (case k9 => first | exact BindsTo.of_eq rfl | exact binds_K (by k_in) rfl (by k_is) rfl rfl rfl)
    (case kB => exact locs rfl)
    (case c1 => decide)
    (case c2 => exact rfl)
    (case c3 => exact rfl)
    (case c4 => exact rfl)
    intro L' oL h' F1 N0 hON
    have hneL : ∀ p ∈ (L, oL) :: news, p.1 ≠ e := fun p hp => by
      rcases List.mem_cons.mp hp with rfl | hp
      · exact (N (e, _) (.head _)).2.1.symm
      · exact hne p hp
    have N1 : News h₀ L' h' ((e, eObj t) :: (L, oL) :: news) := fun p hp => by
      rcases List.mem_cons.mp hp with rfl | hp
      · exact N0 _ (.tail _ (.head _))
      rcases List.mem_cons.mp hp with rfl | hp
      · exact N0 _ (.head _)
      · exact N0 _ (.tail _ (.tail _ hp))
    have X1 := X
    have T1 := T
    dsimp only
    refine ks_wpAt_execs_cons ?_
    refine ks_wpAt_Expr_any ?_
    refine ks_wpAt_MethodCall ?_
    refine ks_node F1 X1 N1 T1 (x := e) (ox := eObj t) (odx := none) (C := 41) (D := 41) (by k_is) (by rfl) (by rfl) ⟨(N1 _ (.head _)).1, rfl, rfl, trivial⟩ (by k_is) (by rfl) (by first | rfl | decide +kernel) (by k_is) (by k_is) (by k_is) (by k_is) (by decide) (by rfl) (by rfl) (by rfl) (by rfl) (by decide +kernel) (by first | boot_by_name | rfl | kernel_rfl) ?_
    intro so h2 F2 N2 l2
    have X2 := X1.keeps F2.keep
    refine sup_method (K := Mine.hd.heap_1 w.params) (l₀ := [.ref 41, .type "Exception", .type "BaseException", .type "object"]) (N2 _ (.head _)).1 (looks_opaque X2 (by k_is)) ((looks_clsIn X2 (cd := { name := Str.ofString "PyFATException", bases := [.type "Exception"], mro := [.ref 41, .type "Exception", .type "BaseException", .type "object"], ns := 40, qualname := Str.ofString "PyFATException" }) (by k_is)).andThen .now) rfl X2 (by kernel_rfl) (in41 X2) (by decide) (N2 _ (.tail _ (.head _))).1 rfl ?ne ?_
    (case ne =>
      rintro rfl
      have q := (N2 _ (.tail _ (.head _))).1
      rw [in41 X2] at q
      cases q)
    dsimp only
    have hmw := Heap.get?_push_at (h := h2) (o := { cls := .type "method-wrapper", data := .fields #[.builtin "Exception.__init__", .ref e] }) rfl rfl
    have F3 := F2.push { cls := .type "method-wrapper", data := .fields #[.builtin "Exception.__init__", .ref e] }
    have N3 := N2.push F2 { cls := .type "method-wrapper", data := .fields #[.builtin "Exception.__init__", .ref e] }
    have X3 := X1.keeps F3.keep
    unfold callWith
    refine wpAny_bind (wpAny_holding (Calls.evalArgs_plain (Calls.spliced_cons (wpAny_Name (wpAny_loadName_local rfl rfl F3.ns rfl (Calls.spliced_nil ?_)) (by decide)))))
    refine wpAny_bind (wpAny_standAt ?_)
    (try dsimp only)
    refine wpAny_bind ?_
    unfold keeperOf
    refine wpAny_bind (wpAny_load hmw ?_)
    (try dsimp only)
    rw [if_pos (by decide), if_pos (by decide)]
    refine wpAny_pure ?_
    (try dsimp only)
    refine wpAny_bind (wpAny_call ?_)
    refine mw_call hmw (in41 X3) (by decide) (N3 _ (.tail _ (.tail _ (.head _)))).1 ⟨_, rfl⟩ ?_
    (try dsimp only)
    refine wpAny_bind (wpAny_holding (wpAny_point (wpAny_pure ?_)))
    have hsz3 : (h2.push { cls := .type "method-wrapper", data := .fields #[.builtin "Exception.__init__", .ref e] } : Heap).objs.size = h2.objs.size + 1 := Heap.size_push _ _
    have F4 := F3.push { cls := .type "tuple", data := .seq #[mv] }
    have N4 := N3.push F3 { cls := .type "tuple", data := .seq #[mv] }
    have heS : @LT.lt Nat _ e so := l2 _ (.head _)
    have hsS : @LT.lt Nat _ so h2.objs.size := Heap.lt_size (N2 _ (.head _)).1
    obtain ⟨F5, N5⟩ := news_upd (f := Obj.mapFields (·.setIfInBounds 0 (.ref (h2.push { cls := .type "method-wrapper", data := .fields #[.builtin "Exception.__init__", .ref e] } : Heap).objs.size))) (o' := eObj (h2.push { cls := .type "method-wrapper", data := .fields #[.builtin "Exception.__init__", .ref e] } : Heap).objs.size) F4
      (pre := [(_, _), (_, _), (_, _)]) (post := (L, oL) :: news) N4 (fun p hp => by
        simp only [List.mem_cons, List.not_mem_nil, or_false] at hp
        rcases hp with rfl | rfl | rfl
        · rw [hsz3]; exact Nat.ne_of_gt (Nat.lt_succ_of_lt (Nat.lt_trans heS hsS))
        · exact Nat.ne_of_gt (Nat.lt_trans heS hsS)
        · exact Nat.ne_of_gt heS) hneL rfl rfl
    have X5 := X1.keeps F5.keep
    refine ks_wpAt_execs_cons ?_
    refine ks_wpAt_Assign_Attr ?_
    refine PySem.wpAt_of_wpAny (wpAny_Name (wpAny_loadName_local rfl rfl F5.ns rfl ?_) (by decide))
    refine wpAny_Name (wpAny_loadName_local rfl rfl F5.ns rfl ?_) (by decide)
    have he5 := (N5 (e, _) (.tail _ (.tail _ (.tail _ (.head _))))).1
    refine store_attr (mA := fun _ => none) (ns := []) PySem.F.store_Exception (in41 X5) (ns40 X5) (ns40_none X5 (by kernel_rfl)) (ns40_none X5 (by kernel_rfl)) (by rw [typeLookup_type, builtinLookup_eq_fast]; kernel_rfl) ?ne2 ⟨_, he5, rfl, (fun c hc => by cases hc), .inl ⟨rfl, fun _ => rfl⟩⟩ ?_ (by within_ways)
    (case ne2 =>
      rintro rfl
      rw [in41 X5] at he5
      cases he5)
    intro h6 tk6 I6 hk6 hs6
    have kp : ∀ b o, b ≠ e → _ → h6.get? b = some o := fun b o n q => hk6 b o n (fun o₀ dx e1 e2 => by rw [he5] at e1; cases e1; cases e2) q
    have n5 := N5 (e, _) (.tail _ (.tail _ (.tail _ (.head _))))
    have F6 : Fr h₀ L' h6 _ := ⟨F5.ns.at' (fun o q => kp L' o n5.2.1.symm q), fun b o q => kp b o (fun z => by rw [z, n5.2.2] at q; cases q) (F5.keep b o q), F5.above⟩
    have N6 : News h₀ L' h6 ((L, oL) :: news) := fun p hp => ⟨kp _ _ (hneL p hp) (N5 p (.tail _ (.tail _ (.tail _ (.tail _ hp))))).1, (N5 p (.tail _ (.tail _ (.tail _ (.tail _ hp))))).2⟩
    refine PySem.wpAt_of_wpAny (wpAny_execs_nil ?_)
    refine hret _ _ ⟨hON.ns (N6 _ (.head _)).1, F6.keep, F.above⟩ (fun p hp => ⟨(N6 p (.tail _ hp)).1, (N p (.tail _ hp)).2⟩) ?_
    obtain ⟨o1, ho1, hc1, hd1, hs1, _⟩ := hs6 _ he5
    obtain ⟨o2, ho2, hc2, _, hdd⟩ := I6
    rw [ho1] at ho2
    cases ho2
    rcases hdd with ⟨_, hz⟩ | ⟨D, hD, hDe, hN⟩
    · have := hz (Str.ofString "errno")
      simp at this
    · obtain ⟨oc, od, oda, osl⟩ := o1
      dsimp only at hc1 hd1 hs1 hD
      subst hc1 hd1 hs1 hD
      exact ⟨D, _, _, ho1, rfl, hDe, hN⟩)
set_option linter.all false in
theorem exc_make (w : World) (mean : ExcName → Option Value) (mg mb : Str → Option Value) (news : List (Addr × Obj)) (mv v : Value) (kw : List (Str × Value))
   (dp un : Nat) (gd : Option (List Code)) (env : Env) (outer : List Env) (h₀ : Heap) (L : Addr) (m : Str → Option Value) (s : Shared) (Q E : Value → Shared → Prop)
    (hroom : dp + 1 < recursionLimit) (F : Fr h₀ L s.heap m) (X : (Mine.hd.heap_1 w.params).In h₀) (N : News h₀ L s.heap news) (T : Top Mine.hd.view_39 (looseW Mine.hd.view_39 [Str.ofString "PyFATException", Str.ofString "errno", Str.ofString "PyFat"]) mean mg mb h₀)
    (hkw : (kw = [] ∧ v = .none) ∨ kw = [(Str.ofString "errno", v)])
    (hret : ∀ e h' tk', Fr h₀ L h' m → News h₀ L h' news → (∀ p ∈ news, p.1 ≠ e) → e ≠ L → h₀.get? e = none → ExcO h' e v → Q (.ref e) { s with heap := h', toks := tk' }) :
      wpAny (model PySem.Challenge.rw_jr0029_01.row.prog w) (arTop dp un gd env outer) (call (.ref 41) [mv] kw) Q E s := by
  obtain ⟨hp, g, d, tk, os⟩ := s
  have X1 := X.keeps F.keep
  obtain ⟨oI, hI, hIc⟩ : ∃ oI, hp.get? 38 = some oI ∧ oI.cls = .type "function" := ⟨_, X1 38 _ (show List.lookup 38 _ = _ by k_is), rfl⟩
  have key : ∀ h' e, Heap.MadeExcOf hp h' e (.ref 41) [mv] → ∀ A : Around, A.depth < recursionLimit →
      wpAny (model PySem.Challenge.rw_jr0029_01.row.prog w) A (call (.ref 38) [.ref e, mv] kw) (fun r s' => r = .none ∧ Q (.ref e) s') E ⟨h', g, d, tk, os⟩ := by
    intro h' e hm A hd
    obtain ⟨t, he, _, _⟩ := hm.there
    have heL : e ≠ L := by
      rintro rfl
      obtain ⟨o, _, _, ho, _⟩ := F.ns
      have := hm.new
      dsimp only at ho
      rw [this] at ho
      cases ho
    have he0 : h₀.get? e = none := by
      cases q : h₀.get? e with
      | none => rfl
      | some o => have := F.keep _ _ q; dsimp only at this; rw [hm.new] at this; cases this
    have hne : ∀ p ∈ news, p.1 ≠ e := fun p hp z => by have := (N p hp).1; dsimp only at this; rw [z, hm.new] at this; cases this
    refine exc_init w mean mg mb news e t mv v kw A h₀ L m ⟨h', g, d, tk, os⟩ _ _ hd (F.keeps hm.keeps) X (fun p hp => ?_) T hne hkw (fun h2 tk2 F2 N2 O2 => ⟨rfl, hret e h2 tk2 F2 N2 hne heL he0 O2⟩)
    rcases List.mem_cons.mp hp with rfl | hp
    · exact ⟨he, heL, he0⟩
    · exact ⟨hm.keeps _ _ (N p hp).1, (N p hp).2⟩
  rcases hkw with ⟨rfl, rfl⟩ | rfl
  · exact wpAny_call_exc_init PySem.F.excBase_Exception (in41 X1) (ns40 X1) (ns40_init X1) hI hIc (fun h' e hm => key h' e hm _ (by show dp + Code.weight _ < _; rw [show Code.weight _ = 1 from by kernel_rfl]; exact hroom))
  · exact call_exc_kw PySem.F.excBase_Exception (in41 X1) (ns40 X1) (ns40_init X1) hI hIc (fun h' e hm => key h' e hm _ (by show dp + Code.weight _ < _; rw [show Code.weight _ = 1 from by kernel_rfl]; exact hroom))
end
section
theorem rst_X6 : True := by w_top off; trivial
/-- the exception e in flight: its own dict is D, its traceback's head T bears the flight's mark fl -/
def TrD (h B : Heap) (e D : Addr) (fl : Value) : Prop :=
  ∃ oe vs T oT ts, h.get? e = some oe ∧ oe.cls = .ref 41 ∧ oe.dict = some D ∧ oe.data = .fields vs ∧ vs[1]? = some (.ref T) ∧ B.get? T = none ∧ T ≠ e ∧ h.get? T = some oT ∧ oT.data = .fields ts ∧ ts[3]? = some fl
section
variable {M : Model} {A : Around} {E : Value → Shared → Prop} {s : Shared} {B : Heap} {env : Env} {outer l : List Env} {L e D : Addr} {Q : Unit → Shared → Prop}
/-- a new entry of the traceback -/
theorem entryD {oe : Obj} {vs : Array Value} {head : Value} {hadNext : Bool}
    (hfr : A.frames = some (env :: outer)) (hl : s.heap.FunFrames B (env :: outer)) (hf : env.frame = some L)
    (he : s.heap.get? e = some oe) (hc : oe.cls = .ref 41) (hD : oe.dict = some D) (hkb : B.StaysIn s.heap) (hen : B.get? e = none) (hd : oe.data = .fields vs) (hsz : 1 < vs.size)
    (h : ∀ h', B.StaysIn h' → h'.FunFrames B (env :: outer) → TrD h' B e D (rawInt L) → s.heap.UpToSlots h' → Q () { s with heap := h' }) :
    wpAny M A (do let a ← frameOf env; let pl ← entryPlaceOf L hadNext; let b ← EntryCells.newEntry head a .none (rawInt L) .none pl; setField (.ref e) 1 b) Q E s := by
  have heF : e ∉ (env :: outer).filterMap (·.frame) := fun hm => by
    obtain ⟨_, o, ho, hnf⟩ := hl.mem hm
    rw [he] at ho; cases ho; exact hnf vs hd
  refine wpAny_bind (wpAny_frameOf_fun hfr hl hf fun h₁ hs₁ => wpAny_bind (wpAny_entryPlaceOf fun pl hpl => ?_))
  unfold EntryCells.newEntry newFields
  refine wpAny_bind (wpAny_newObj_type ?_ (hpl.sizeOk5 _ _ _ _ _))
  have he₁ : h₁.get? e = some oe := (hs₁.2.1 e heF).trans he
  have kb₁ : B.StaysIn h₁ := fun b o q => (hs₁.2.1 b fun hm => by rw [(hl.mem hm).1] at q; cases q).trans (hkb b o q)
  generalize hoT : ({ cls := .type "traceback", dict := none, data := .fields ([head, .ref L, .none, rawInt L, .none] ++ (if pl.isEmpty then List.replicate 6 Value.none else pl)).toArray } : Obj) = oT
  have he₂ := Heap.get?_push_of_some (h := h₁) oT he₁
  have hTe : h₁.objs.size ≠ e := Nat.ne_of_gt (Heap.lt_size he₁)
  have hd₃ := Obj.data_mapFields hd (·.setIfInBounds 1 (Value.ref h₁.objs.size))
  have he₃ := Heap.get?_update_self (Obj.mapFields (·.setIfInBounds 1 (Value.ref h₁.objs.size))) he₂ (Obj.isFreed_of_fields hd₃)
  have hT₃ : ((h₁.push oT).update e (Obj.mapFields (·.setIfInBounds 1 (Value.ref h₁.objs.size)))).get? h₁.objs.size = some oT :=
    (Heap.get?_update_other _ _ (Ne.symm hTe)).trans (Heap.get?_push_size h₁ (by rw [← hoT]; rfl))
  have kp : ∀ b o, b ≠ e → h₁.get? b = some o → ((h₁.push oT).update e (Obj.mapFields (·.setIfInBounds 1 (Value.ref h₁.objs.size)))).get? b = some o := fun b o n q =>
    (Heap.get?_update_other _ _ (Ne.symm n)).trans (Heap.get?_push_of_some _ q)
  have nr : ∀ b o, s.heap.get? b = some o → (∀ ws, o.data ≠ .fields ws) → b ≠ e := fun b o q n z => by
    rw [z, he] at q; cases q; exact n vs hd
  refine wpAny_setField he₂ hd hsz (h _ (fun b o q => kp b o (fun z => by rw [z, hen] at q; cases q) (kb₁ b o q)) (hl.of_keeps fun b o q n => ?_) ?_ fun b o q n => ?_)
  · obtain ⟨sl, hs⟩ := hs₁.2.2 b o q
    exact ⟨_, kp b _ (nr b o q n) hs, rfl⟩
  · refine ⟨_, _, h₁.objs.size, oT, ([head, .ref L, .none, rawInt L, .none] ++ (if pl.isEmpty then List.replicate 6 Value.none else pl)).toArray, he₃, (Obj.cls_mapFields _ _).trans hc, ?_, hd₃, by simp [hsz], kb₁.fresh, hTe, hT₃, by rw [← hoT], by simp⟩
    obtain ⟨oc, od, oda, osl⟩ := oe
    dsimp only at hd hD
    subst hd hD
    rfl
  · obtain ⟨sl, hs⟩ := hs₁.2.2 b o q
    exact ⟨sl, kp b _ (nr b o q n) hs⟩
/-- the frame noted, the first of all -/
theorem note_firstD {oe : Obj} {vs : Array Value} (hfr : A.frames = some (env :: outer)) (hl : s.heap.FunFrames B (env :: outer)) (hf : env.frame = some L)
    (he : s.heap.get? e = some oe) (hc : oe.cls = .ref 41) (hD : oe.dict = some D) (hkb : B.StaysIn s.heap) (hen : B.get? e = none) (hd : oe.data = .fields vs) (h1 : vs[1]? = some .none)
    (h : ∀ h', B.StaysIn h' → h'.FunFrames B (env :: outer) → TrD h' B e D (rawInt L) → s.heap.UpToSlots h' → Q () { s with heap := h' }) : wpAny M A (noteFrame (.ref e) env) Q E s := by
  unfold noteFrame
  simp only [hf]
  refine wpAny_bind (wpAny_field he hd h1 ?_)
  rw [if_neg (by decide)]
  exact entryD hfr hl hf he hc hD hkb hen hd (Array.getElem?_eq_some_iff.mp h1).1 h
/-- the frame noted behind an inner one -/
theorem note_nextD (hfr : A.frames = some (env :: outer)) (hl : s.heap.FunFrames B (env :: outer)) (hf : env.frame = some L) (ht : TrD s.heap B e D .none) (hkb : B.StaysIn s.heap) (hen : B.get? e = none)
    (h : ∀ h', B.StaysIn h' → h'.FunFrames B (env :: outer) → TrD h' B e D (rawInt L) → s.heap.UpToSlots h' → Q () { s with heap := h' }) : wpAny M A (noteFrame (.ref e) env) Q E s := by
  obtain ⟨oe, vs, T, oT, ts, he, hc, hD, hd, h1, hnT, hTe, hT, hdT, h3⟩ := ht
  unfold noteFrame
  simp only [hf]
  refine wpAny_bind (wpAny_field he hd h1 ?_)
  rw [if_pos (show (Value.ref T != Value.none) = true from by simp)]
  refine wpAny_bind (wpAny_field hT hdT h3 ?_)
  rw [if_neg (show ¬ ((Value.none == rawInt L) = true) from by simp [rawInt])]
  refine wpAny_bind (wpAny_setField hT hdT (Array.getElem?_eq_some_iff.mp h3).1 ?_)
  have other : ∀ b, b ≠ T → (s.heap.update T (Obj.mapFields (·.setIfInBounds 3 Value.none))).get? b = s.heap.get? b := fun b n => Heap.get?_update_other _ _ (Ne.symm n)
  have nr : ∀ b o, s.heap.get? b = some o → (∀ ws, o.data ≠ .fields ws) → b ≠ T := fun b o q n z => by
    rw [z, hT] at q; cases q; exact n ts hdT
  exact entryD hfr (hl.of_keeps fun b o q n => ⟨o, (other b (nr b o q n)).trans q, rfl⟩) hf ((other e (Ne.symm hTe)).trans he) hc hD
    (fun b o q => (other b fun z => by rw [z, hnT] at q; cases q).trans (hkb b o q)) hen hd (Array.getElem?_eq_some_iff.mp h1).1
    fun h' x1 x2 x3 x4 => h h' x1 x2 x3 fun b o q n => x4 b o ((other b (nr b o q n)).trans q) n
/-- the flight's mark taken away -/
theorem landD {fl : Value} (hkb : B.StaysIn s.heap) (hl : s.heap.FunFrames B l) (ht : TrD s.heap B e D fl)
    (h : ∀ h', B.StaysIn h' → h'.FunFrames B l → TrD h' B e D .none → s.heap.UpToSlots h' → Q () { s with heap := h' }) : wpAny M A (setFlight (.ref e) none) Q E s := by
  obtain ⟨oe, vs, T, oT, ts, he, hc, hD, hd, h1, hnT, hTe, hT, hdT, h3⟩ := ht
  have hsz3 : 3 < ts.size := (Array.getElem?_eq_some_iff.mp h3).1
  have other : ∀ b, b ≠ T → (s.heap.update T (Obj.mapFields (·.setIfInBounds 3 ((none : Option Addr).elim Value.none fun f => rawInt f)))).get? b = s.heap.get? b := fun b n => Heap.get?_update_other _ _ (Ne.symm n)
  have nr : ∀ b o, s.heap.get? b = some o → (∀ ws, o.data ≠ .fields ws) → b ≠ T := fun b o q n z => by
    rw [z, hT] at q; cases q; exact n ts hdT
  unfold setFlight
  refine wpAny_bind (wpAny_field he hd h1 ?_)
  rw [if_pos (show (Value.ref T != Value.none) = true from by simp)]
  refine wpAny_setField hT hdT hsz3 (h _ (fun b o q => (other b fun z => by rw [z, hnT] at q; cases q).trans (hkb b o q)) (hl.of_keeps fun b o q n => ⟨o, (other b (nr b o q n)).trans q, rfl⟩) ?_ fun b o q n => ⟨o.slots, (other b (nr b o q n)).trans q⟩)
  exact ⟨oe, vs, T, _, _, (other e (Ne.symm hTe)).trans he, hc, hD, hd, h1, hnT, hTe, Heap.get?_update_self _ hT (Obj.isFreed_of_fields (Obj.data_mapFields hdT _)), Obj.data_mapFields hdT _, by simp [hsz3]⟩
end
end
section
theorem rst_X7 : True := by w_top off; trivial
abbrev frA (l : List Env) : List Addr := l.filterMap (·.frame)
theorem ns1_slots {h h' : Heap} {a : Addr} {m : Str → Option Value} (x : h.UpToSlots h') (n : h.Ns1 a m) : h'.Ns1 a m := by
  obtain ⟨o, es, ep, e, d, r⟩ := n
  obtain ⟨sl, hs⟩ := x a o e (fun vs q => by rw [d] at q; cases q)
  exact ⟨_, es, ep, hs, d, r⟩
/-- an own exception flies out of a frame whose caller's ground is G: all of G but the frames stands, the ledger stands -/
structure RaisedD (G : Heap) (l : List Env) (e D : Addr) (v : Value) (news : List (Addr × Obj)) (B h : Heap) : Prop where
  ground : ∀ b o, G.get? b = some o → b ∉ frA l → B.get? b = some o
  led : ∀ q ∈ news, B.get? q.1 = some q.2 ∧ G.get? q.1 = none
  stays : B.StaysIn h
  newB : B.get? e = none
  newG : G.get? e = none
  frames : h.FunFrames B l
  tr : TrD h B e D .none
  ne : D ≠ e
  map : h.Ns1 D (erMap v)
  slots : G.UpToSlots h
def Flown (G : Heap) (l : List Env) (e : Addr) (v : Value) (news : List (Addr × Obj)) (h : Heap) : Prop := ∃ B D, RaisedD G l e D v news B h
section
variable {M : Model} {A : Around} {E : Value → Shared → Prop} {s : Shared} {base g G hr : Heap} {outer : List Env} {L a e : Addr} {m : Str → Option Value} {name : Str} {scope : Scope} {cd v : Value} {Q : Unit → Shared → Prop} {news : List (Addr × Obj)}
theorem raiseD (K : Below A base outer g) (F : Fr g L s.heap m) (N : News g L s.heap news) (hne : ∀ p ∈ news, p.1 ≠ e) (heL : e ≠ L) (heg : g.get? e = none) (hx : ExcO s.heap e v)
    (hQ : ∀ h', Flown g outer e v news h' → Q () { s with heap := h' }) (hk : scope.kind = .function) :
    wpAny M (A.deeper (envOf name scope L a cd)) (leaving (envOf name scope L a cd) (.ref e)) Q E s := by
  have K' := K.push (name := name) (a := a) (cd := cd) F hk
  obtain ⟨D, vs, sl, he, h1, hDe, hmap⟩ := hx
  have hin : ∀ env ∈ (envOf name scope L a cd :: outer), ∀ b, env.frame = some b → b ∈ e :: frA (envOf name scope L a cd :: outer) := fun env hm b hb => .tail _ (List.mem_filterMap.mpr ⟨env, hm, hb⟩)
  have hfr := funFrames_hide K'.frames hin
  have hB : ∀ b o, (hideAll s.heap (e :: frA (envOf name scope L a cd :: outer))).get? b = some o → s.heap.get? b = some o := fun b o q => of_hideAll _ q
  unfold leaving
  refine wpAny_bind (note_firstD K'.stack hfr rfl he rfl rfl hB (hideAll_none _ (.head _)) rfl h1 fun h₁ b1 f1 t1 u1 => ?_)
  refine landD b1 f1 t1 fun h₂ b2 f2 t2 u2 => hQ h₂ ⟨_, D, ?_, ?_, b2, hideAll_none _ (.head _), heg, f2.2.2, t2, hDe, ns1_slots (u1.trans u2) hmap, ((Heap.UpToSlots.of_keeps F.keep).trans u1).trans u2⟩
  · intro b o q nm
    refine hideAll_get _ (F.keep b o q) fun hm => ?_
    rcases List.mem_cons.mp hm with rfl | hm
    · rw [heg] at q; cases q
    · rcases kts_mem hm with z | z
      · rw [z, kts_self F] at q; cases q
      · exact nm z
  · intro q hq
    refine ⟨hideAll_get _ (N q hq).1 fun hm => ?_, (N q hq).2.2⟩
    rcases List.mem_cons.mp hm with z | hm
    · exact hne q hq z
    · rcases kts_mem hm with z | z
      · exact (N q hq).2.1 z
      · obtain ⟨_, o, ho, _⟩ := K.frames.mem z
        rw [(N q hq).2.2] at ho; cases ho
theorem leaveD (K : Below A base outer g) (F : Fr g L G m) (R : Flown G (envOf name scope L a cd :: outer) e v news s.heap)
    (hQ : ∀ h', Flown g outer e v news h' → Q () { s with heap := h' }) :
    wpAny M (A.deeper (envOf name scope L a cd)) (leaving (envOf name scope L a cd) (.ref e)) Q E s := by
  obtain ⟨B, D, r1, r2, r3, r4, r5, r6, r7, r8, r9, r10⟩ := R
  unfold leaving
  refine wpAny_bind (note_nextD (Around.frames_deeper K.stack) r6 rfl r7 r3 r4 fun h₁ b1 f1 t1 u1 => ?_)
  refine landD b1 f1 t1 fun h₂ b2 f2 t2 u2 => hQ h₂ ⟨B, D, ?_, ?_, b2, r4, kts_none F.keep r5, f2.2.2, t2, r8, ns1_slots (u1.trans u2) r9, (((Heap.UpToSlots.of_keeps F.keep).trans r10).trans u1).trans u2⟩
  · intro b o q nm
    refine r1 b o (F.keep b o q) fun hm => ?_
    rcases kts_mem hm with z | z
    · rw [z, kts_self F] at q; cases q
    · exact nm z
  · exact fun q hq => ⟨(r2 q hq).1, kts_none F.keep (r2 q hq).2⟩
end
section
variable {w : World} {A₀ : Around} {E : Value → Shared → Prop} {s : Shared} {base h₀ G hh : Heap} {L L0 a e : Addr} {m mg mb : Str → Option Value} {mean : ExcName → Option Value} {name : Str} {scope : Scope} {cd v : Value} {env0 : Env} {oc : Obj}
  {n x : Str} {b₀ : Stmt} {suite : List Stmt} {pos np : Pos} {rest : List ExceptHandler} {Q : Flow → Shared → Prop} {news : List (Addr × Obj)}
/-- what is known of the caught exception -/
def Caught (h : Heap) (e : Addr) (v : Value) (L : Addr) : Prop := h.Inst e 41 (erMap v) ∧ e ≠ L
theorem caughtD (K : Below A₀ base [env0] h₀) (F : Fr h₀ L G m) (R : Flown G [envOf name scope L a cd, env0] e v news s.heap) (hf0 : env0.frame = some L0) (ho0 : h₀.get? L0 = some oc)
    (X : (Mine.hd.heap_1 w.params).In hh) (T : Top Mine.hd.view_39 (looseW Mine.hd.view_39 [Str.ofString "PyFATException", Str.ofString "errno", Str.ofString "PyFat"]) mean mg mb hh) (hst : hh.StaysIn (hideAll h₀ [L0]))
    (hm9 : ∃ y u, m y = some u ∧ erMap v y = none)
    (k : ∀ h' tk sl, Fr (hideAll h₀ [L0]) L h' (fun y => if y = n then some (.ref e) else m y) → News (hideAll h₀ [L0]) L h' ((L0, { oc with slots := sl }) :: news) → h'.Inst e 41 (erMap v) →
      wpAny (model PySem.Challenge.rw_jr0029_01.row.prog w) ((A₀.deeper (envOf name scope L a cd)).mark (some (.ref e))) (execs (b₀ :: suite) (envOf name scope L a cd))
        (fun f s₄ => wpAny (model PySem.Challenge.rw_jr0029_01.row.prog w) (A₀.deeper (envOf name scope L a cd)) (do bindName (envOf name scope L a cd) n .none; unbindBehindTheSuite (envOf name scope L a cd) n pos) (fun _ s₅ => Q f s₅) E s₄)
        (AsSuiteRaised (model PySem.Challenge.rw_jr0029_01.row.prog w) ((A₀.deeper (envOf name scope L a cd)).mark (some (.ref e))) (envOf name scope L a cd) n pos (notedBy (model PySem.Challenge.rw_jr0029_01.row.prog w) ((A₀.deeper (envOf name scope L a cd)).mark (some (.ref e))) (envOf name scope L a cd) (cameBackBy (model PySem.Challenge.rw_jr0029_01.row.prog w) (A₀.deeper (envOf name scope L a cd)) (envOf name scope L a cd) E)))
        { s with heap := h', toks := tk })
    (hk : scope.kind = .function) (hlo : (envOf name scope L a cd).kindOf n = some .local) (hx : (envOf name scope L a cd).kindOf (Str.ofString "PyFATException") = some .globalImplicit) :
    wpAny (model PySem.Challenge.rw_jr0029_01.row.prog w) (A₀.deeper (envOf name scope L a cd)) (noteFrame (.ref e) (envOf name scope L a cd))
      (fun _ s₂ => wpAny (model PySem.Challenge.rw_jr0029_01.row.prog w) (A₀.deeper (envOf name scope L a cd)) (setFlight (.ref e) none) (fun _ s₃ =>
        wpAny (model PySem.Challenge.rw_jr0029_01.row.prog w) (A₀.deeper (envOf name scope L a cd)) (handleBy (.ref e) (envOf name scope L a cd) (.ExceptHandler (some (.Name (Str.ofString "PyFATException") np)) (some n) (b₀ :: suite) pos :: rest)) Q E s₃) E s₂) E s := by
  obtain ⟨B, D, r1, r2, r3, r4, r5, r6, r7, r8, r9, r10⟩ := R
  have hLL : L0 ≠ L := Nat.ne_of_lt (Nat.lt_of_lt_of_le (Heap.lt_size ho0) F.above)
  have hfB : ∀ b ∈ frA [envOf name scope L a cd, env0], b = L ∨ b = L0 := fun b hb => by
    rcases kts_mem hb with z | z
    · exact .inl z
    · obtain ⟨en, hen, hb2⟩ := List.mem_filterMap.mp z
      rw [List.mem_singleton.mp hen, hf0] at hb2
      exact .inr (Option.some.inj hb2).symm
  have hod : ∀ vs, oc.data ≠ .fields vs := by
    obtain ⟨_, o', ho', hd⟩ := K.frames.mem (b := L0) (List.mem_filterMap.mpr ⟨env0, .head _, hf0⟩)
    rw [ho0] at ho'; cases ho'; exact hd
  -- what stands at a later heap
  have re : ∀ h₆ : Heap, B.StaysIn h₆ → G.UpToSlots h₆ → TrD h₆ B e D .none → h₆.Ns1 D (erMap v) → Fr (hideAll h₀ [L0]) L h₆ m ∧ (∃ sl, News (hideAll h₀ [L0]) L h₆ ((L0, { oc with slots := sl }) :: news)) ∧ (∃ o, h₆.get? e = some o ∧ o.cls = .ref 41) ∧ h₆.Inst e 41 (erMap v) ∧ e ≠ L ∧ D ≠ L := by
    intro h₆ hB hU ht hM
    have hke : ∀ b o, (hideAll h₀ [L0]).get? b = some o → h₆.get? b = some o := fun b o q => by
      have q0 := of_hideAll _ q
      have nb : b ≠ L0 := fun z => by rw [z, hideAll_none _ (.head _)] at q; cases q
      refine hB b o (r1 b o (F.keep b o q0) fun hm => ?_)
      rcases hfB b hm with z | z
      · rw [z, kts_self F] at q0; cases q0
      · exact nb z
    have F₆ : Fr (hideAll h₀ [L0]) L h₆ m := ⟨hU.ns F.ns, hke, by rw [hideAll_size]; exact F.above⟩
    obtain ⟨oe, vs, T, oT, ts, he, hc, hD, hd, h1, _⟩ := ht
    refine ⟨F₆, ?_, ⟨oe, he, hc⟩, ⟨oe, he, hc, (fun c z => by rw [hd] at z; cases z), .inr ⟨D, hD, r8, hM⟩⟩, ?_, ?_⟩
    · obtain ⟨sl, hs⟩ := hU L0 oc (F.keep _ _ ho0) hod
      refine ⟨sl, fun q hq => ?_⟩
      rcases List.mem_cons.mp hq with rfl | hq
      · exact ⟨hs, hLL, hideAll_none _ (.head _)⟩
      · have z := r2 q hq
        have z0 : h₀.get? q.1 = none := kts_none F.keep z.2
        refine ⟨hB _ _ z.1, fun w => ?_, ?_⟩
        · obtain ⟨o, _, _, ho, _⟩ := F.ns
          rw [← w, z.2] at ho; cases ho
        · cases y : (hideAll h₀ [L0]).get? q.1 with
          | none => rfl
          | some o => have := of_hideAll _ y; rw [z0] at this; cases this
    · rintro rfl
      obtain ⟨o, es, ep, ho, hdd, _⟩ := F₆.ns
      rw [he] at ho; cases ho; rw [hd] at hdd; cases hdd
    · rintro rfl
      obtain ⟨y, u, hy, hz⟩ := hm9
      obtain ⟨o, es, ep, ho, hdd, _, hf⟩ := F₆.ns
      obtain ⟨o', es', ep', ho', hdd', _, _, hf'⟩ := hM
      rw [ho] at ho'; cases ho'
      rw [hdd] at hdd'; cases hdd'
      have := (hf y).symm.trans (hf' y)
      rw [hy, hz] at this; cases this
  refine note_nextD (Around.frames_deeper K.stack) r6 rfl r7 r3 r4 fun h₄ b4 f4 t4 u4 => ?_
  refine landD (s := { s with heap := h₄ }) b4 f4 t4 fun h₅ b5 f5 t5 u5 => ?_
  have m5 := ns1_slots (u4.trans u5) r9
  obtain ⟨F₅, _, ⟨ob, hob, hobc⟩, _⟩ := re h₅ b5 ((r10.trans u4).trans u5) t5 m5
  have X5 := X.keeps hst
  refine wpAny_handleBy_cons (codeAny_handlers_test (name_K (s := { s with heap := h₅ }) F₅ X5 (topRead_of (T.keeps hst)) (by k_is) ?_ hk hx (by decide))) (by intro q; cases q)
  refine wpAny_excMatches_sub_self (in41 (X5.keeps F₅.keep)) hob hobc (by decide) (codeAny_handlers_suite_as ?_)
  refine landD (s := { s with heap := h₅ }) b5 f5 t5 fun h₆ b6 f6 t6 u6 => ?_
  obtain ⟨F₆, ⟨sl, N₆⟩, _, I₆, heL, hDL⟩ := re h₆ b6 (((r10.trans u4).trans u5).trans u6) t6 (ns1_slots u6 m5)
  refine wpAny_storeName_local hlo F₆.ns (fun h₇ hn₇ hs₇ => ?_) (by show (scope.kind == .class || (scope.kind == .module && L != mainGlobals)) = false; rw [hk]; rfl)
  refine k h₇ _ sl (F₆.set hn₇ hs₇) (N₆.set hs₇) ?_
  obtain ⟨o, ho, hc, hnc, hdd⟩ := I₆
  refine ⟨o, (hs₇.2 e heL).trans ho, hc, hnc, ?_⟩
  rcases hdd with ⟨_, hz⟩ | ⟨d, hd, hde, hN⟩
  · have := hz (Str.ofString "errno"); simp [erMap] at this
  · refine .inr ⟨d, hd, hde, hN.sameBut hs₇ ?_⟩
    have : d = D := by
      obtain ⟨oe, vs, T, oT, ts, he, hc', hD', _⟩ := t6
      rw [ho] at he; cases he
      rw [hd] at hD'; cases hD'; rfl
    rw [this]; exact hDL
end
end
section
theorem rst_X8 : True := by w_top off; trivial
section
variable {w : World} {A : Around} {E : Value → Shared → Prop} {s : Shared} {env : Env}
def ExcAt (h : Heap) (v : Value) : Prop := ∃ x ox vs, v = .ref x ∧ h.get? 41 = some c41 ∧ h.get? x = some ox ∧ ox.cls = .ref 41 ∧ ox.data = .fields vs ∧ vs[1]? = some .none
theorem raiseStmt_my {x : Sem Value} {Q : Flow → Shared → Prop} (hh : A.handled = none) (h : wpAny (model PySem.Challenge.rw_jr0029_01.row.prog w) A x (fun v s₁ => ExcAt s₁.heap v ∧ E v s₁) E s) :
    wpAny (model PySem.Challenge.rw_jr0029_01.row.prog w) A (raiseStmt env (some x) none) Q E s := by
  have hcB : (Value.ref 41 :: [Value.type "Exception", Value.type "BaseException", Value.type "object"]).contains (.type "BaseException") = true := by decide
  unfold raiseStmt
  refine wpAny_bind (wpAny_mono h (fun v s₁ h₁ => ?_) fun _ _ x => x)
  obtain ⟨⟨e, ⟨oc, od, oda, osl⟩, vs, rfl, hC, he, hc, hd, h1⟩, hE⟩ := h₁
  dsimp only at hc hd
  subst hc hd
  obtain ⟨hp, g, d, tk, os⟩ := s₁
  dsimp only at hC he
  unfold setFlight
  repeat (first | with_reducible refine wpAny_field he rfl h1 ?_ | with_reducible refine wpAny_loadPart_at he ?_ | with_reducible refine wpAny_loadPart_at hC ?_ | (with_reducible refine wpAny_isSubtype_exc hC ?_; rw [hcB]) | wp_step)
  exact wpAny_raiseNew_none hh hE
theorem Raise_my {e : Expr} {pos : Pos} {Q : Flow → Shared → Prop} (hh : A.handled = none) (h : wpAny (model PySem.Challenge.rw_jr0029_01.row.prog w) A (eval e env) (fun v s₁ => ExcAt s₁.heap v ∧ E v s₁) E s) :
    wpAny (model PySem.Challenge.rw_jr0029_01.row.prog w) A (exec (.Raise (some e) none pos) env) Q E s := by
  rw [arm_exec_Raise]
  first
    | exact wpAny_bind (wpAny_standAt (raiseStmt_my hh h))
    | (simp only [evalOpt, Option.map]; exact wpAny_bind (wpAny_standAt (raiseStmt_my hh h)))
    | (simp only [evalOpt, Option.map]; refine wpAny_bind (wpAny_standAt (raiseStmt_my hh ?_)); exact wpAny_bind (wpAny_mono h (fun v s₃ h₃ => wpAny_bind (wpAny_standAt (wpAny_pure h₃))) fun _ _ x => x))
    | (refine wpAny_bind (wpAny_standAt (raiseStmt_my hh ?_)); exact wpAny_bind (wpAny_mono h (fun v s₃ h₃ => wpAny_bind (wpAny_standAt (wpAny_pure h₃))) fun _ _ x => x))
end
theorem excAt_of {P : Params} {g h : Heap} {L e : Addr} {m : Str → Option Value} {v : Value} (X : (Mine.hd.heap_1 P).In g) (F : Fr g L h m) (ex : ExcO h e v) : ExcAt h (.ref e) := by
  obtain ⟨D, vs, sl, he, h1, _⟩ := ex
  exact ⟨e, _, vs, rfl, in41 (X.keeps F.keep), he, rfl, rfl, h1⟩
end
section
theorem rst_X12 : True := by w_top off; trivial
section
variable {prog : Program} {w : World} {A : Around} {E : Value → Shared → Prop} {h : Heap} {g : Array GenState} {d : Drawn} {t : Nat} {os : OsState} {x : Addr} {v : Value}
open Builtin Builtin.ObjectAttr
theorem lk_exc_ga : typeLookup (.type "Exception") "__getattribute__" = pure (some (.builtin "BaseException.__getattribute__")) := by rw [typeLookup_type, builtinLookup_eq_fast]; kernel_rfl
theorem lk_exc_errno : typeLookup (.type "Exception") (Str.ofString "errno") = pure none := by rw [typeLookup_type, builtinLookup_eq_fast]; kernel_rfl
theorem lk_exc_gh : typeLookup (.type "Exception") "__getattr__" = pure none := by rw [typeLookup_type, builtinLookup_eq_fast]; kernel_rfl
theorem slot_exc_ga : Slot "Exception" "__getattribute__" "BaseException.__getattribute__" := .of (owner := "BaseException") (n := "__getattribute__") (by rw [typeLookup_type, builtinLookup_eq_fast]; kernel_rfl) (by decide +kernel) (by decide +kernel) (by decide +kernel)
  (by first | exact .inl (by decide +kernel) | exact .inr (by decide +kernel)) (by rw [isSubtype_type]; kernel_rfl)
theorem ga_entry {P : Params} {tk : Tok} {Q : Fin → Shared → Prop} (X : (Mine.hd.heap_1 P).In h) (I : h.Inst x 41 (erMap v)) (hh : handedOut v = pure v) (hq : Q (.done (.ret v)) ⟨h, g, d, t, os⟩) :
    wpAny (model prog w) A (Builtin.«object.__getattribute__» ⟨[.ref x, .str (Str.ofString "errno") tk], []⟩) Q E ⟨h, g, d, t, os⟩ := by
  have hC := in41 X
  have hn := ns40 X
  have hna := ns40_none X (x := Str.ofString "errno") (by kernel_rfl)
  have hmro := PySem.F.excBase_Exception.mroIs
  obtain ⟨o, hx, hc, hnc, hd⟩ := I
  rcases hd with ⟨_, hz⟩ | ⟨dx, hdx, hne, hns⟩
  · have := hz (Str.ofString "errno"); simp [erMap] at this
  unfold Builtin.«object.__getattribute__»
  repeat (first | (with_reducible refine wpAny_loadPart_at hx ?_; rw [hc]) | (with_reducible refine wpAny_typeLookup_exc hC hn hmro lk_exc_errno ?_; rw [hna]) | wp_step)
  split
  · rename_i c hcd
    exact absurd hcd (hnc c)
  unfold instanceDict
  repeat (first | (with_reducible refine wpAny_loadPart_at hx ?_; rw [hc]) | with_reducible refine wpAny_loadPart_at hC ?_ | wp_step)
  rw [hdx]
  have hv : erMap v (Str.ofString "errno") = some v := by simp [erMap]
  repeat (first | (with_reducible refine wpAny_nsGet hns.ns ?_; rw [hv]) | wp_step)
  exact hq
theorem check_ga {M : Model} {P : Params} {nameV : Value} {o : Obj} {Q : Unit → Shared → Prop} (X : (Mine.hd.heap_1 P).In h) (hx : h.get? x = some o) (hc : o.cls = .ref 41) (hq : Q () ⟨h, g, d, t, os⟩) :
    wpAny M A (checkBuiltinCall "BaseException.__getattribute__" ⟨[.ref x, nameV], []⟩) Q E ⟨h, g, d, t, os⟩ := by
  have hC := in41 X
  have hk : builtinKind "BaseException.__getattribute__" = some .slot := by decide +kernel
  have hsplit : splitId "BaseException.__getattribute__" = some ("BaseException", "__getattribute__") := by decide +kernel
  have hcB : (Value.ref 41 :: [Value.type "Exception", Value.type "BaseException", Value.type "object"]).contains (.type "BaseException") = true := by decide
  have ha := PySem.F.args_bexc_ga (.ref x) nameV
  simp only [checkBuiltinCall, hk, hsplit]
  refine wpAny_bind ?_
  unfold isInstance
  repeat (first | (with_reducible refine wpAny_loadPart_at hx ?_; rw [hc]) | (with_reducible refine wpAny_isSubtype_exc hC ?_; rw [hcB]) | wp_step)
  exact hq
theorem load_exc {P : Params} {expr : Bool} {Q : Value → Shared → Prop} (X : (Mine.hd.heap_1 P).In h) (I : h.Inst x 41 (erMap v)) (hh : handedOut v = pure v) (hq : Q v ⟨h, g, d, t + 1, os⟩) :
    wpAny (model prog w) A (getAttr (.ref x) (Str.ofString "errno") expr) Q E ⟨h, g, d, t, os⟩ := by
  have hC := in41 X
  have hn := ns40 X
  have hng := ns40_none X (x := Str.ofString "__getattribute__") (by kernel_rfl)
  have hnh := ns40_none X (x := Str.ofString "__getattr__") (by kernel_rfl)
  have hmro := PySem.F.excBase_Exception.mroIs
  have hbga := slot_exc_ga.bind (.ref x)
  have hx0 : (expr && onTheHeap (Value.builtin "BaseException.__getattribute__")) = false := by cases expr <;> rfl
  have hcB : (Value.ref 41 :: [Value.type "Exception", Value.type "BaseException", Value.type "object"]).contains (.type "BaseException") = true := by decide
  have I0 := I
  obtain ⟨o, hx, hc, hnc, hd⟩ := I
  unfold getAttr getAttrBy
  repeat (first | (with_reducible refine wpAny_loadPart_at hx ?_; rw [hc]) | (with_reducible refine wpAny_typeLookup_exc hC hn hmro lk_exc_ga ?_; rw [hng]) | (with_reducible refine wpAny_typeLookup_exc hC hn hmro lk_exc_gh ?_; rw [hnh]) | wp_step)
  refine codeAny_call_builtin slot_exc_ga.plain PySem.F.entry_bexc_ga (check_ga X hx hc (ga_entry X I0 hh ?_))
  show wpAny _ _ (handedOut v) _ _ _
  rw [hh]
  exact wpAny_pure hq
end
end
section
theorem rst_X10 : True := by w_top off; trivial
section
variable {M : Model} {A : Around} {E : Value → Shared → Prop} {s : Shared} {B : Heap} {env : Env} {outer l : List Env} {L e D : Addr} {Q : Unit → Shared → Prop}
theorem flightD {fl : Value} {fo : Option Addr} (hkb : B.StaysIn s.heap) (hl : s.heap.FunFrames B l) (ht : TrD s.heap B e D fl)
    (h : ∀ h', B.StaysIn h' → h'.FunFrames B l → TrD h' B e D (fo.elim .none fun f => rawInt f) → s.heap.UpToSlots h' → Q () { s with heap := h' }) : wpAny M A (setFlight (.ref e) fo) Q E s := by
  obtain ⟨oe, vs, T, oT, ts, he, hc, hD, hd, h1, hnT, hTe, hT, hdT, h3⟩ := ht
  have hsz3 : 3 < ts.size := (Array.getElem?_eq_some_iff.mp h3).1
  have other : ∀ b, b ≠ T → (s.heap.update T (Obj.mapFields (·.setIfInBounds 3 (fo.elim Value.none fun f => rawInt f)))).get? b = s.heap.get? b := fun b n => Heap.get?_update_other _ _ (Ne.symm n)
  have nr : ∀ b o, s.heap.get? b = some o → (∀ ws, o.data ≠ .fields ws) → b ≠ T := fun b o q n z => by
    rw [z, hT] at q; cases q; exact n ts hdT
  unfold setFlight
  refine wpAny_bind (wpAny_field he hd h1 ?_)
  rw [if_pos (show (Value.ref T != Value.none) = true from by simp)]
  refine wpAny_setField hT hdT hsz3 (h _ (fun b o q => (other b fun z => by rw [z, hnT] at q; cases q).trans (hkb b o q)) (hl.of_keeps fun b o q n => ⟨o, (other b (nr b o q n)).trans q, rfl⟩) ?_ fun b o q n => ⟨o.slots, (other b (nr b o q n)).trans q⟩)
  exact ⟨oe, vs, T, _, _, (other e (Ne.symm hTe)).trans he, hc, hD, hd, h1, hnT, hTe, Heap.get?_update_self _ hT (Obj.isFreed_of_fields (Obj.data_mapFields hdT _)), Obj.data_mapFields hdT _, by simp [hsz3]⟩
theorem note_againD (hf : env.frame = some L) (ht : TrD s.heap B e D (rawInt L)) (h : Q () s) : wpAny M A (noteFrame (.ref e) env) Q E s := by
  obtain ⟨oe, vs, T, oT, ts, he, hc, hD, hd, h1, hnT, hTe, hT, hdT, h3⟩ := ht
  unfold noteFrame
  simp only [hf]
  refine wpAny_bind (wpAny_field he hd h1 ?_)
  rw [if_pos (show (Value.ref T != Value.none) = true from by simp)]
  refine wpAny_bind (wpAny_field hT hdT h3 ?_)
  rw [if_pos (show (rawInt L == rawInt L) = true from by simp)]
  exact wpAny_pure h
/-- an own code of the frame ends by the exception, and the frame after it -/
theorem backD {Qx : Value → Unit → Shared → Prop} (hf : env.frame = some L) (hkb : B.StaysIn s.heap) (hl : s.heap.FunFrames B (env :: outer)) (ht : TrD s.heap B e D (rawInt L))
    (h : ∀ h', B.StaysIn h' → h'.FunFrames B (env :: outer) → TrD h' B e D .none → s.heap.UpToSlots h' → Qx (.ref e) () { s with heap := h' }) :
    cameBackBy M A env (fun x s' => wpAny M A (leaving env x) (Qx x) E s') (.ref e) s := by
  obtain ⟨oe, vs, T, oT, ts, he, hc, hD, hd, h1, r⟩ := id ht
  show wpAny M A _ _ _ s
  refine wpAny_bind (wpAny_field he hd h1 ?_)
  rw [if_neg (show ¬ (Value.ref T == Value.none) = true from by simp)]
  try refine wpAny_bind (wpAny_pure ?_)
  rw [hf]
  refine flightD hkb hl ht fun h₁ b1 f1 t1 u1 => ?_
  unfold leaving
  refine wpAny_bind (note_againD (B := B) (D := D) hf t1 ?_)
  exact landD b1 f1 t1 fun h₂ b2 f2 t2 u2 => h h₂ b2 f2 t2 (u1.trans u2)
end
section
variable {M : Model} {A : Around} {E E' : Value → Shared → Prop} {s : Shared} {base g G hr : Heap} {outer : List Env} {L a e : Addr} {m : Str → Option Value} {name : Str} {scope : Scope} {cd v : Value} {Q : Unit → Shared → Prop} {news : List (Addr × Obj)}
theorem raiseLoopD {Qx : Value → Unit → Shared → Prop} (K : Below A base outer g) (F : Fr g L s.heap m) (N : News g L s.heap news) (hne : ∀ p ∈ news, p.1 ≠ e) (heL : e ≠ L) (heg : g.get? e = none) (hx : ExcO s.heap e v)
    (hQ : ∀ h', Flown g outer e v news h' → Qx (.ref e) () { s with heap := h' }) (hk : scope.kind = .function) :
    notedBy M (A.deeper (envOf name scope L a cd)) (envOf name scope L a cd) (cameBackBy M (A.deeper (envOf name scope L a cd)) (envOf name scope L a cd) (fun x s' => wpAny M (A.deeper (envOf name scope L a cd)) (leaving (envOf name scope L a cd) x) (Qx x) E s')) (.ref e) s := by
  have K' := K.push (name := name) (a := a) (cd := cd) F hk
  obtain ⟨D, vs, sl, he, h1, hDe, hmap⟩ := hx
  have hin : ∀ env ∈ (envOf name scope L a cd :: outer), ∀ b, env.frame = some b → b ∈ e :: frA (envOf name scope L a cd :: outer) := fun env hm b hb => .tail _ (List.mem_filterMap.mpr ⟨env, hm, hb⟩)
  have hfr := funFrames_hide K'.frames hin
  have hB : ∀ b o, (hideAll s.heap (e :: frA (envOf name scope L a cd :: outer))).get? b = some o → s.heap.get? b = some o := fun b o q => of_hideAll _ q
  refine note_firstD K'.stack hfr rfl he rfl rfl hB (hideAll_none _ (.head _)) rfl h1 fun h₁ b1 f1 t1 u1 => ?_
  refine backD rfl b1 f1 t1 fun h₂ b2 f2 t2 u2 => hQ h₂ ⟨_, D, ?_, ?_, b2, hideAll_none _ (.head _), heg, f2.2.2, t2, hDe, ns1_slots (u1.trans u2) hmap, ((Heap.UpToSlots.of_keeps F.keep).trans u1).trans u2⟩
  · intro b o q nm
    refine hideAll_get _ (F.keep b o q) fun hm => ?_
    rcases List.mem_cons.mp hm with rfl | hm
    · rw [heg] at q; cases q
    · rcases kts_mem hm with z | z
      · rw [z, kts_self F] at q; cases q
      · exact nm z
  · intro q hq
    refine ⟨hideAll_get _ (N q hq).1 fun hm => ?_, (N q hq).2.2⟩
    rcases List.mem_cons.mp hm with z | hm
    · exact hne q hq z
    · rcases kts_mem hm with z | z
      · exact (N q hq).2.1 z
      · obtain ⟨_, o, ho, _⟩ := K.frames.mem z
        rw [(N q hq).2.2] at ho; cases ho
theorem leaveLoopD {Qx : Value → Unit → Shared → Prop} (K : Below A base outer g) (F : Fr g L G m) (R : Flown G (envOf name scope L a cd :: outer) e v news s.heap)
    (hQ : ∀ h', Flown g outer e v news h' → Qx (.ref e) () { s with heap := h' }) :
    notedBy M (A.deeper (envOf name scope L a cd)) (envOf name scope L a cd) (cameBackBy M (A.deeper (envOf name scope L a cd)) (envOf name scope L a cd) (fun x s' => wpAny M (A.deeper (envOf name scope L a cd)) (leaving (envOf name scope L a cd) x) (Qx x) E s')) (.ref e) s := by
  obtain ⟨B, D, r1, r2, r3, r4, r5, r6, r7, r8, r9, r10⟩ := R
  refine note_nextD (Around.frames_deeper K.stack) r6 rfl r7 r3 r4 fun h₁ b1 f1 t1 u1 => ?_
  refine backD rfl b1 f1 t1 fun h₂ b2 f2 t2 u2 => hQ h₂ ⟨B, D, ?_, ?_, b2, r4, kts_none F.keep r5, f2.2.2, t2, r8, ns1_slots (u1.trans u2) r9, (((Heap.UpToSlots.of_keeps F.keep).trans r10).trans u1).trans u2⟩
  · intro b o q nm
    refine r1 b o (F.keep b o q) fun hm => ?_
    rcases kts_mem hm with z | z
    · rw [z, kts_self F] at q; cases q
    · exact nm z
  · exact fun q hq => ⟨(r2 q hq).1, kts_none F.keep (r2 q hq).2⟩
theorem raiseLoopD2 {Qx : Value → Unit → Shared → Prop} {hp : Heap} (K : Below A base outer g) (F : Fr g L hp m) (N : News g L hp news) (hne : ∀ p ∈ news, p.1 ≠ e) (heL : e ≠ L) (heg : g.get? e = none) (hx : ExcO hp e v) (hs : s.heap = hp)
    (hQ : ∀ h', Flown g outer e v news h' → Qx (.ref e) () { s with heap := h' }) (hk : scope.kind = .function) :
    notedBy M (A.deeper (envOf name scope L a cd)) (envOf name scope L a cd) (cameBackBy M (A.deeper (envOf name scope L a cd)) (envOf name scope L a cd) (fun x s' => wpAny M (A.deeper (envOf name scope L a cd)) (leaving (envOf name scope L a cd) x) (Qx x) E s')) (.ref e) s := by
  subst hs
  exact raiseLoopD K F N hne heL heg hx hQ hk
theorem leaveLoopD2 {Qx : Value → Unit → Shared → Prop} {hp : Heap} (K : Below A base outer g) (F : Fr g L G m) (R : Flown G (envOf name scope L a cd :: outer) e v news hp) (hs : s.heap = hp)
    (hQ : ∀ h', Flown g outer e v news h' → Qx (.ref e) () { s with heap := h' }) :
    notedBy M (A.deeper (envOf name scope L a cd)) (envOf name scope L a cd) (cameBackBy M (A.deeper (envOf name scope L a cd)) (envOf name scope L a cd) (fun x s' => wpAny M (A.deeper (envOf name scope L a cd)) (leaving (envOf name scope L a cd) x) (Qx x) E s')) (.ref e) s := by
  subst hs
  exact leaveLoopD K F R hQ
theorem Flown.drop {G h : Heap} {l : List Env} {p : Addr × Obj} (R : Flown G l e v (p :: news) h) : Flown G l e v news h := by
  obtain ⟨B, D, r1, r2, r3, r4, r5, r6, r7, r8, r9, r10⟩ := R
  exact ⟨B, D, r1, fun q hq => r2 q (.tail _ hq), r3, r4, r5, r6, r7, r8, r9, r10⟩
theorem flown_at {G h : Heap} {l : List Env} {a : Addr} {o : Obj} (R : Flown G l e v news h) (hm : (a, o) ∈ news) : h.get? a = some o := by
  obtain ⟨B, D, r1, r2, r3, _⟩ := R
  exact r3 _ _ (r2 _ hm).1
theorem flown_old {G h : Heap} {l : List Env} {a : Addr} {o : Obj} (R : Flown G l e v news h) (hg : G.get? a = some o) (hn : a ∉ frA l) : h.get? a = some o := by
  obtain ⟨B, D, r1, r2, r3, _⟩ := R
  exact r3 _ _ (r1 _ _ hg hn)
theorem flown_cls {G h : Heap} {l : List Env} (R : Flown G l e v news h) : ∃ oe, h.get? e = some oe ∧ oe.cls = .ref 41 := by
  obtain ⟨B, D, r1, r2, r3, r4, r5, r6, ⟨oe, _, _, _, _, he, hc, _⟩, _⟩ := R
  exact ⟨oe, he, hc⟩
theorem notStop41 {prog : Program} {w : World} {h : Heap} (h41 : h.get? 41 = some c41) (he : ∃ oe, h.get? e = some oe ∧ oe.cls = .ref 41) : ∀ (A : Around) (Q : Bool → Shared → Prop) (E : Value → Shared → Prop) (s : Shared), s.heap = h → Q false s → wpAny (model prog w) A (isInstance (.ref e) (.type "StopIteration")) Q E s := by
  obtain ⟨⟨oc, od, oda, osl⟩, he, hc⟩ := he
  dsimp only at hc
  subst hc
  rintro A Q E ⟨hp, g, d, tk, os⟩ rfl hQ
  have hcB : (Value.ref 41 :: [Value.type "Exception", Value.type "BaseException", Value.type "object"]).contains (.type "StopIteration") = false := by decide
  unfold isInstance
  repeat (first | with_reducible refine wpAny_loadPart_at he ?_ | (with_reducible refine wpAny_isSubtype_exc h41 ?_; rw [hcB]) | wp_step)
  all_goals exact hQ
end
end
section
theorem rst_G1 : True := by w_top off; trivial
theorem over_func (dp un : Nat) (gd : Option (List Code)) (env : Env) (outer : List Env) (body : List Stmt) (e : Env) :
   (arTop dp un gd env outer).in1.over (.func body e) [] = (arTop dp (un + 1) gd env outer).deeper e := rfl
theorem over_while (dp un : Nat) (gd : Option (List Code)) (env : Env) (outer : List Env) (body b2 : List Stmt) (test : Expr) (e : Env) (k) (p : Pos) (l) :
   (arTop dp un gd env outer).in1.over (.whileLoop test b2 [] e) [.ret k none false l (.func body e) p []] = (arTop dp (un + 1) gd env outer).deeper e := rfl
section
open Sem (wp)
variable {M : Model} {A A' : Around} {R : GenEnd} {Y : Protocol} {n : Nat} {s₀ : Shared} {c : Code} {fs : List Frame} {s : Shared} {env : Env}
  {K : Flow → Sem Fin} {H : Value → Sem Fin} {gd : Bool → Bool} {lv : List Value → List Value}
theorem seg_If {test : Expr} {body orelse : List Stmt} {pos : Pos} (hA : A.over c fs = A')
    (h : wpAny M A' (isTrue test env (eval test env)) (fun b s' => if b = true then Seg M A R Y n s₀ c ((execs body env).wrap K H gd lv) fs s' else Seg M A R Y n s₀ c ((execs orelse env).wrap K H gd lv) fs s')
      (fun x s' => Seg M A R Y n s₀ c (H x) fs s') s) :
    Seg M A R Y n s₀ c ((exec (.If test body orelse pos) env).wrap K H gd lv) fs s := by
  subst hA
  rw [arm_exec_If]
  refine seg_at ?_
  show Seg M A R Y n s₀ c (((isTrue test env (eval test env)) >>= fun b => if b = true then execs body env else execs orelse env).wrap K H gd lv) fs s
  rw [Sem.bind_eq_wrap', Sem.wrap_wrap]
  refine seg_wrap (wpAny_mono h (fun b s' h' => ?_) fun _ _ x => x)
  cases b with
  | true => simpa using h'
  | false => simpa using h'
theorem seg_stmt {st : Stmt} (hA : A.over c fs = A')
    (h : wpAny M A' (exec st env) (fun f s' => Seg M A R Y n s₀ c (K f) fs s') (fun x s' => Seg M A R Y n s₀ c (H x) fs s') s) :
    Seg M A R Y n s₀ c ((exec st env).wrap K H gd lv) fs s := by
  subst hA
  exact seg_wrap h
end
end
section
theorem rst_N1 : True := by w_top off; trivial
/-- the value e is no StopIteration -/
def NotStop (prog : Program) (w : World) (h : Heap) (e : Addr) : Prop := ∀ (A : Around) (Q : Bool → Shared → Prop) (E : Value → Shared → Prop) (s : Shared), s.heap = h → Q false s → wpAny (model prog w) A (isInstance (.ref e) (.type "StopIteration")) Q E s
section
variable {prog : Program} {w : World} {A : Around} {E : Value → Shared → Prop} {s : Shared}
/-- one pull of a generator: it yields, ends, or raises -/
theorem next_my {a : Addr} {g n : Nat} {gs : GenState} {R : GenEnd} {Y : Protocol} {Q : Option Value → Shared → Prop} (hh : A.handled = none)
    (hl : s.heap.NoLimit) (hroom : A.depth < recursionLimit)
    (hg : s.heap.IsGen a g) (hgs : s.gens[g]? = some gs)
    (hgo : gs.Goes (model prog w) A.in1 R Y n (.send .none) (s.setGen g .running))
    (hY : ∀ v s₁ gs', gs'.bare = true → Y (n - 1) (s.setGen g .running) v s₁ (fun r' s'' => match n with
        | 0 => False
        | m + 1 => gs'.Goes (model prog w) A.in1 R Y m r' s'') → Q (some v) (s₁.setGen g gs'))
    (hP : ∀ r s₁, R n (s.setGen g .running) r s₁ → (r = .ok (.ret .none) ∧ ∀ h', (∀ b o, s₁.heap.get? b = some o → h'.get? b = some o) → Q none { s₁.setGen g .finished with heap := h' }) ∨
      (∃ e, r = .error (.ref e) ∧ s₁.heap.IsGen a g ∧ NotStop prog w s₁.heap e ∧ E (.ref e) (s₁.setGen g .finished))) :
    wpAny (model prog w) A (pyNext (.ref a)) Q E s := by
  unfold pyNext
  refine wpAny_bind (wpAny_attempt (wpAny_callSpecial?_slot (name := Str.ofString "__next__") hg.typeIs slot_gen_next
    (wpAny_call_entry slot_gen_next hg.typeIs entry_gen_next ?_ (args_gen_next _))))
  show wpAny _ A.in1 (Builtin.Generator.genWake (.ref a) (.send .none)) _ _ s
  unfold Builtin.Generator.genWake
  refine wpAny_bind (wpAny_holding (wpAny_genNumber hg (wpAny_bind (wpAny_genState hgs ?_))))
  cases gs with
  | running => exact hgo.elim
  | finished => exact hgo.elim
  | _ =>
    refine wpAny_bind (wpAny_roomToWake hl hroom ?_)
    show wpAny _ A.in1 (.resume g (.send .none) [] _) _ _ s
    refine wpAny_resumeQ hgs hgo (fun x s₁ hx => ?_) (fun v s₁ gs' hb hv => ?_)
    · rcases hP x s₁ hx with ⟨rfl, hp⟩ | ⟨e, rfl, hG, hns, hE⟩
      · show wpAny _ A.in1 (newExc (.type "StopIteration") [] >>= _) _ _ _
        refine wpAny_bind ?_
        simp only [newExc, newTuple]
        refine wpAny_bind (wpAny_newObj_type ?_ (by size_fits))
        refine wpAny_bind (m := firstArgMember _ _) (wpAny_of_eq (a := Value.none) (by first | rfl | (simp only [firstArgMember]; rfl)) ?_)
        refine wpAny_newObj_type ?_ (by size_fits)
        simp only [raiseNew]
        refine wpAny_bind (wpAny_bind (wpAny_handled ?_))
        first | rw [show A.in1.handled = none from hh] | rw [hh]
        refine wpAny_throw ?_
        refine wpAny_bind (wpAny_isInstance (T := "StopIteration") (b := true) ⟨_, Heap.get?_push_size _ rfl, rfl⟩ isSubtype_stop ?_)
        exact wpAny_pure (hp _ fun b o hb => Heap.get?_push_of_some _ (Heap.get?_push_of_some _ hb))
      · obtain ⟨o, nm, qn, ho, hc, hd, hsl⟩ := hG
        show wpAny _ A.in1 (Builtin.Generator.genLeft (.ref a) (.ref e)) _ _ _
        unfold Builtin.Generator.genLeft Builtin.Generator.genEscaped
        refine wpAny_bind ?_
        unfold Builtin.Generator.madeByALambda
        refine wpAny_bind (wpAny_load ho ?_)
        rw [hd]
        refine wpAny_pure ?_
        refine wpAny_bind (hns _ _ _ _ rfl ?_)
        (try dsimp only)
        rw [if_neg (by rw [Bool.and_false]; decide)]
        refine wpAny_bind (hns _ _ _ _ rfl ?_)
        (try dsimp only)
        rw [if_pos (by decide)]
        refine wpAny_bind (wpAny_throw ?_)
        (try dsimp only)
        refine wpAny_bind (hns _ _ _ _ rfl ?_)
        rw [if_neg (by decide)]
        exact wpAny_throw hE
    · exact wpAny_pure ⟨v, rfl, wpAny_pure (hY v s₁ gs' hb hv)⟩
end
end
section
theorem rst_G2 : True := by w_top off; trivial
def Kept (Lg : Addr) (h h' : Heap) : Prop := ∀ b o, b ≠ Lg → h.get? b = some o → h'.get? b = some o
theorem Kept.trans {Lg : Addr} {h h' h'' : Heap} (x : Kept Lg h h') (y : Kept Lg h' h'') : Kept Lg h h'' := fun b o n e => y b o n (x b o n e)
/-- what a turn of the generator gives out: the next cluster; it goes on wherever Pre holds of its names' object -/
def GY (Lg : Addr) (Pre : Obj → Heap → Prop) (vals : List Int) : Protocol := fun n s₀ v s' kap => ∃ t oL' h' tk' c, n < vals.length ∧ vals[vals.length - 1 - n]? = some c ∧ v = .int c t ∧ s' = { s₀ with heap := h', toks := tk' } ∧
  Kept Lg s₀.heap h' ∧ h'.get? Lg = some oL' ∧ Pre oL' h' ∧ ∀ s'' : Shared, Pre oL' s''.heap → kap (.send .none) s''
def GP (Lg : Addr) : Nat → Shared → Shared → Prop := fun n s₀ s₁ => n = 0 ∧ ∃ h' tk' oL', s₁ = { s₀ with heap := h', toks := tk' } ∧ Kept Lg s₀.heap h' ∧ h'.get? Lg = some oL'
/-- it ends, or raises as X says -/
abbrev GR (Lg : Addr) (X : Nat → Shared → Addr → Shared → Prop) : GenEnd := fun n s₀ r s₁ => (r = .ok (.ret .none) ∧ GP Lg n s₀ s₁) ∨ (∃ e, r = .error (.ref e) ∧ X n s₀ e s₁)
abbrev NoX : Nat → Shared → Addr → Shared → Prop := fun _ _ _ _ => False
theorem bare_set {a : Array GenState} {g : Nat} {x : GenState} (h : AllBare a) (hx : x.bare = true) : AllBare (a.setIfInBounds g x) := fun y hy => by
  obtain ⟨i, hi, rfl⟩ := Array.mem_iff_getElem.mp hy
  have hi2 : i < a.size := by simpa using hi
  rw [Array.getElem_setIfInBounds hi2]
  split
  · exact hx
  · exact h _ (Array.getElem_mem hi2)
def GenO (o : Obj) (g : Nat) : Prop := o.cls = .type "generator" ∧ ∃ nm qn, o.data = .fields #[.int g 0, nm, qn] ∧ o.slots = #[]
theorem GenO.is {o : Obj} {g : Nat} {h : Heap} {a : Addr} (x : GenO o g) (ho : h.get? a = some o) : h.IsGen a g := let ⟨c, nm, qn, d, sl⟩ := x; ⟨o, nm, qn, ho, c, d, sl⟩
section
variable {prog : Program} {w : World} {A : Around} {s : Shared} {env : Env} {h₀ : Heap} {x : Str} {px : Pos} {body : List Stmt} {R : Result → Shared → Prop}
def GTurnE (h₀ : Heap) (L Ga : Addr) (oG : Obj) (Lg : Addr) (oL : Obj) (J : (Str → Option Value) → List (Addr × Obj) → Prop) (s s₂ : Shared) : Prop :=
  ∃ h' tk' m' nx, s₂ = { s with heap := h', toks := tk' } ∧ Fr h₀ L h' m' ∧ News h₀ L h' ((Ga, oG) :: (Lg, oL) :: nx) ∧ (∀ p ∈ nx, p.1 ≠ Ga ∧ p.1 ≠ Lg) ∧ J m' nx
def GTurnP (h₀ : Heap) (L Ga : Addr) (oG : Obj) (Lg : Addr) (oL : Obj) (J : (Str → Option Value) → List (Addr × Obj) → Prop) (s : Shared) (R : Result → Shared → Prop) (f : Flow) (s₂ : Shared) : Prop :=
  match f with
  | .ret v => R (.ok (.ret v)) s₂
  | .brk => R (.ok .next) s₂
  | _ => GTurnE h₀ L Ga oG Lg oL J s s₂
theorem gen_loop {X : Nat → Shared → Addr → Shared → Prop} {Ga Lg : Addr} {gi : Nat} {oG oL₀ : Obj} {Pre : Obj → Heap → Prop} {vals : List Int} {gst₀ : GenState} {m₀ : Str → Option Value} {news : List (Addr × Obj)} (J : Nat → (Str → Option Value) → List (Addr × Obj) → Prop)
    (hx : env.kindOf x = some .local) (hp : (env.scope.kind == .class || (env.scope.kind == .module && env.locals != env.globals)) = false)
    (hh : A.handled = none) (hlim : h₀.NoLimit) (hroom : A.depth < recursionLimit) (hG : GenO oG gi) (hGL : Ga ≠ Lg)
    (hpre : ∀ i m₁ news₁ h oL, J i m₁ news₁ → Fr h₀ env.locals h m₁ → News h₀ env.locals h ((Ga, oG) :: (Lg, oL) :: news₁) → Pre oL h)
    (hb : AllBare s.gens) (hgs : s.gens[gi]? = some gst₀) (hgo : ∀ s'' : Shared, Pre oL₀ s''.heap → gst₀.Goes (model prog w) A.in1 (GR Lg X) (GY Lg Pre vals) vals.length (.send .none) s'')
    (F : Fr h₀ env.locals s.heap m₀) (N : News h₀ env.locals s.heap ((Ga, oG) :: (Lg, oL₀) :: news)) (hoff : ∀ p ∈ news, p.1 ≠ Ga ∧ p.1 ≠ Lg) (hj : J 0 m₀ news)
    (hX : ∀ i m₁ news₁ h tk gens' oL e s₁, J i m₁ news₁ → (∀ p ∈ news₁, p.1 ≠ Ga ∧ p.1 ≠ Lg) → Fr h₀ env.locals h m₁ → News h₀ env.locals h ((Ga, oG) :: (Lg, oL) :: news₁) → AllBare gens' → X (vals.length - i) ({ s with heap := h, toks := tk, gens := gens' }.setGen gi .running) e s₁ →
      s₁.heap.IsGen Ga gi ∧ NotStop prog w s₁.heap e ∧ notedBy (model prog w) A env (fun e s' => R (.error e) s') (.ref e) (s₁.setGen gi .finished))
    (turn : ∀ i t c m₁ news₁ h tk gens' oL m₂, AllBare gens' → vals[i]? = some c → (∀ p ∈ news₁, p.1 ≠ Ga ∧ p.1 ≠ Lg) → J i m₁ news₁ → m₂ x = some (.int c t) → (∀ y, y ≠ x → m₂ y = m₁ y) → Fr h₀ env.locals h m₂ → News h₀ env.locals h ((Ga, oG) :: (Lg, oL) :: news₁) →
      wpAny (model prog w) A (execs body env) (GTurnP h₀ env.locals Ga oG Lg oL (J (i + 1)) { s with heap := h, toks := tk, gens := gens' } R) (notedBy (model prog w) A env fun e s' => R (.error e) s') { s with heap := h, toks := tk, gens := gens' })
    (done : ∀ m₁ news₁ h tk gens' oL, AllBare gens' → J vals.length m₁ news₁ → (∀ p ∈ news₁, p.1 ≠ Ga ∧ p.1 ≠ Lg) → Fr h₀ env.locals h m₁ → News h₀ env.locals h ((Ga, oG) :: (Lg, oL) :: news₁) → R (.ok .next) { s with heap := h, toks := tk, gens := gens' }) :
    codeAny (model prog w) A (.forLoop (.Name x px) (.ref Ga) body [] env) R s := by
  have hLne : Lg ≠ env.locals := (N _ (.tail _ (.head _))).2.1
  refine codeAny_forLoop (fun k s' => ∃ h' tk gens' m' news' oL gst i, s' = { s with heap := h', toks := tk, gens := gens' } ∧ AllBare gens' ∧ Fr h₀ env.locals h' m' ∧ News h₀ env.locals h' ((Ga, oG) :: (Lg, oL) :: news') ∧ (∀ p ∈ news', p.1 ≠ Ga ∧ p.1 ≠ Lg) ∧ J i m' news' ∧ gens'[gi]? = some gst ∧
      (∀ s'' : Shared, Pre oL s''.heap → gst.Goes (model prog w) A.in1 (GR Lg X) (GY Lg Pre vals) (vals.length - i) (.send .none) s'') ∧ i ≤ vals.length ∧ k = vals.length + 1 - i) ?_ (vals.length + 1)
    ⟨s.heap, s.toks, s.gens, m₀, news, oL₀, gst₀, 0, rfl, hb, F, N, hoff, hj, hgs, hgo, Nat.zero_le _, rfl⟩
  rintro k s' ⟨h', tk, gens', m', news', oL, gst, i, rfl, hbg, F', N', ho', hJ, hgs', hgo', hi, rfl⟩
  have hPre := hpre i m' news' h' oL hJ F' N'
  have keepF : ∀ h₁, Kept Lg h' h₁ → Fr h₀ env.locals h₁ m' := fun h₁ hk =>
    ⟨F'.ns.at' fun o e => hk _ o hLne.symm e, fun b o e => hk b o (fun q => by have := (N' _ (.tail _ (.head _))).2.2; rw [q] at e; rw [this] at e; cases e) (F'.keep b o e), F'.above⟩
  have keepN : ∀ h₁ o', Kept Lg h' h₁ → h₁.get? Lg = some o' → News h₀ env.locals h₁ ((Ga, oG) :: (Lg, o') :: news') := fun h₁ o' hk e p hp => by
    rcases List.mem_cons.mp hp with rfl | hp
    · exact ⟨hk _ _ hGL (N' _ (.head _)).1, (N' _ (.head _)).2⟩
    · rcases List.mem_cons.mp hp with rfl | hp
      · exact ⟨e, (N' _ (.tail _ (.head _))).2⟩
      · exact ⟨hk _ _ (ho' p hp).2 (N' _ (.tail _ (.tail _ hp))).1, (N' _ (.tail _ (.tail _ hp))).2⟩
  have hgiN : gi < gens'.size := (Array.getElem?_eq_some_iff.mp hgs').1
  refine next_my (R := GR Lg X) (Y := GY Lg Pre vals) (n := vals.length - i) (g := gi) hh (hlim.keeps F'.keep) hroom (hG.is (N' _ (.head _)).1) hgs' (hgo' _ hPre) ?_ ?_
  · rintro v s₁ gs' hbs ⟨t, oL', h₁, tk₁, c, hlt, hc, rfl, rfl, hk, hL, hP1, hnext⟩
    cases hn : vals.length - i with
    | zero =>
      rw [hn] at hnext
      exact (hnext { s with heap := h₁ } hP1).elim
    | succ r =>
      rw [hn] at hnext hlt hc
      have hci : vals[i]? = some c := by
        have e : vals.length - 1 - (r + 1 - 1) = i := by omega
        rw [e] at hc
        exact hc
      have F₁ := keepF h₁ hk
      have N₁ := keepN h₁ oL' hk hL
      refine wpAny_assign_Name (wpAny_storeName_local hx F₁.ns (fun h₂ hn₂ hs₂ => ?_) hp)
      have F₂ := F₁.set hn₂ hs₂
      have N₂ := N₁.set hs₂
      have hb2 : AllBare ((gens'.setIfInBounds gi .running).setIfInBounds gi gs') := bare_set (bare_set hbg rfl) hbs
      refine wpAny_mono (turn i t c m' news' h₂ _ _ oL' _ hb2 hci ho' hJ (by simp) (fun y hy => by simp [hy]) F₂ N₂) (fun f s₃ p => ?_) fun _ _ e => e
      have fin : ∀ s₃, GTurnE h₀ env.locals Ga oG Lg oL' (J (i + 1)) { s with heap := h₂, toks := tk₁ + 1, gens := (gens'.setIfInBounds gi .running).setIfInBounds gi gs' } s₃ →
          ∃ q, q < vals.length + 1 - i ∧ ∃ h' tk gens' m' news' oL gst i, s₃ = { s with heap := h', toks := tk, gens := gens' } ∧ AllBare gens' ∧ Fr h₀ env.locals h' m' ∧ News h₀ env.locals h' ((Ga, oG) :: (Lg, oL) :: news') ∧ (∀ p ∈ news', p.1 ≠ Ga ∧ p.1 ≠ Lg) ∧ J i m' news' ∧ gens'[gi]? = some gst ∧
            (∀ s'' : Shared, Pre oL s''.heap → gst.Goes (model prog w) A.in1 (GR Lg X) (GY Lg Pre vals) (vals.length - i) (.send .none) s'') ∧ i ≤ vals.length ∧ q = vals.length + 1 - i := by
        rintro s₃ ⟨h₄, tk₄, m₄, nx, e, F₄, N₄, ho₄, hJ₄⟩
        refine ⟨vals.length + 1 - (i + 1), by omega, h₄, tk₄, _, m₄, nx, oL', gs', i + 1, e, hb2, F₄, N₄, ho₄, hJ₄, by simp [hgiN], ?_, by omega, rfl⟩
        intro s'' hP''
        have e2 : vals.length - (i + 1) = r := by omega
        rw [e2]
        exact hnext s'' hP''
      cases f with
      | ret v => exact p
      | brk => exact p
      | next => exact fin _ p
      | cont => exact fin _ p
  · rintro r s₁ (⟨rfl, hn, h₁, tk₁, oL', rfl, hk, hL⟩ | ⟨e, rfl, hx9⟩)
    rotate_left
    · exact .inr ⟨e, rfl, hX i m' news' h' tk gens' oL e s₁ hJ ho' F' N' hbg hx9⟩
    refine .inl ⟨rfl, fun h₂ hk₂ => ?_⟩
    have hin : i = vals.length := by omega
    subst hin
    have F₁ := (keepF h₁ hk).keeps hk₂
    have N₁ := (keepN h₁ oL' hk hL).grown hk₂
    exact wpAny_execs_nil (done m' news' h₂ _ _ oL' (bare_set (bare_set hbg rfl) rfl) hJ ho' F₁ N₁)
end
end
section
theorem rst_X11 : True := by w_top off; trivial
section
variable {M : Model} {A : Around} {E : Value → Shared → Prop} {s : Shared} {base h0 : Heap} {envG env : Env} {outer : List Env} {Lg e : Addr} {v : Value} {Q : Unit → Shared → Prop}
/-- what an exception that has left a generator's frame leaves standing of the heap h0 at which the generator was woken -/
def FlownG (h0 : Heap) (Lg : Addr) (fs : List Addr) (l : List Env) (e : Addr) (v : Value) (h : Heap) : Prop :=
  ∀ news : List (Addr × Obj), (∀ q ∈ news, h0.get? q.1 = some q.2 ∧ q.1 ∉ fs) → Flown (hideAll h0 (Lg :: news.map (·.1))) l e v news h
/-- the exception in a generator's frame, noted there -/
structure InGenD (h0 : Heap) (Lg : Addr) (l : List Env) (e D : Addr) (v : Value) (B h : Heap) (fl : Value) : Prop where
  ground : ∀ b o, h0.get? b = some o → b ∉ frA l → B.get? b = some o
  stays : B.StaysIn h
  newB : B.get? e = none
  newG : h0.get? e = none
  frames : h.FunFrames B l
  tr : TrD h B e D fl
  ne : D ≠ e
  map : h.Ns1 D (erMap v)
  slots : ∀ b o, h0.get? b = some o → b ≠ Lg → (∀ vs, o.data ≠ .fields vs) → ∃ sl, h.get? b = some { o with slots := sl }
theorem noteG (hA : A.frames = some (envG :: outer)) (hfG : envG.frame = some Lg) (hFF : s.heap.FunFrames base (envG :: outer)) (hx : ExcO s.heap e v) (hk : Kept Lg h0 s.heap) (he0 : h0.get? e = none)
    (hQ : ∀ h' D B, InGenD h0 Lg (envG :: outer) e D v B h' (rawInt Lg) → Q () { s with heap := h' }) : wpAny M A (noteFrame (.ref e) envG) Q E s := by
  obtain ⟨D, vs, sl, he, h1, hDe, hmap⟩ := hx
  have hin : ∀ en ∈ (envG :: outer), ∀ b, en.frame = some b → b ∈ e :: frA (envG :: outer) := fun en hm b hb => .tail _ (List.mem_filterMap.mpr ⟨en, hm, hb⟩)
  have hfr := funFrames_hide hFF hin
  have hB : ∀ b o, (hideAll s.heap (e :: frA (envG :: outer))).get? b = some o → s.heap.get? b = some o := fun b o q => of_hideAll _ q
  have hLg : Lg ∈ frA (envG :: outer) := List.mem_filterMap.mpr ⟨envG, .head _, hfG⟩
  refine note_firstD hA hfr hfG he rfl rfl hB (hideAll_none _ (.head _)) rfl h1 fun h₁ b1 f1 t1 u1 => hQ h₁ D _ ⟨?_, b1, hideAll_none _ (.head _), he0, f1, t1, hDe, ns1_slots u1 hmap, fun b o q n nf => u1 b o (hk b o n q) nf⟩
  intro b o q nm
  refine hideAll_get _ (hk b o (fun z => nm (z ▸ hLg)) q) fun hm => ?_
  rcases List.mem_cons.mp hm with rfl | hm
  · rw [he0] at q; cases q
  · exact nm hm
theorem flightG {D : Addr} {B : Heap} {fl : Value} {fo : Option Addr} {l : List Env} (R : InGenD h0 Lg l e D v B s.heap fl) (hQ : ∀ h', InGenD h0 Lg l e D v B h' (fo.elim .none fun f => rawInt f) → Q () { s with heap := h' }) :
    wpAny M A (setFlight (.ref e) fo) Q E s := by
  obtain ⟨r1, r2, r3, r4, r5, r6, r7, r8, r9⟩ := R
  refine flightD r2 r5 r6 fun h₁ b1 f1 t1 u1 => hQ h₁ ⟨r1, b1, r3, r4, f1, t1, r7, ns1_slots u1 r8, fun b o q n nf => ?_⟩
  obtain ⟨sl, hs⟩ := r9 b o q n nf
  obtain ⟨sl2, hs2⟩ := u1 b _ hs nf
  exact ⟨sl2, hs2⟩
theorem againG {D : Addr} {B : Heap} {l : List Env} (hfG : envG.frame = some Lg) (R : InGenD h0 Lg l e D v B s.heap (rawInt Lg)) (hQ : Q () s) : wpAny M A (noteFrame (.ref e) envG) Q E s := note_againD hfG R.tr hQ
theorem leftG {D : Addr} {B : Heap} {h : Heap} (hfG : envG.frame = some Lg) (R : InGenD h0 Lg (envG :: outer) e D v B h .none) : FlownG h0 Lg (frA (envG :: outer)) outer e v h := by
  intro news hn
  obtain ⟨r1, r2, r3, r4, r5, r6, r7, r8, r9⟩ := R
  have hLg : Lg ∈ frA (envG :: outer) := List.mem_filterMap.mpr ⟨envG, .head _, hfG⟩
  refine ⟨B, D, ?_, ?_, r2, r3, ?_, r5.2.2, r6, r7, r8, ?_⟩
  · intro b o q nm
    have q0 := of_hideAll _ q
    refine r1 b o q0 fun hm => ?_
    obtain ⟨en, hen, hb⟩ := List.mem_filterMap.mp hm
    rcases List.mem_cons.mp hen with rfl | hen
    · rw [hfG] at hb
      cases hb
      rw [hideAll_none _ (.head _)] at q; cases q
    · exact nm (List.mem_filterMap.mpr ⟨en, hen, hb⟩)
  · exact fun q hq => ⟨r1 _ _ (hn q hq).1 (hn q hq).2, hideAll_none _ (.tail _ (List.mem_map_of_mem hq))⟩
  · cases z : (hideAll h0 (Lg :: news.map (·.1))).get? e with
    | none => rfl
    | some o => have := of_hideAll _ z; rw [r4] at this; cases this
  · intro b o q nf
    exact r9 b o (of_hideAll _ q) (fun z => by rw [z, hideAll_none _ (.head _)] at q; cases q) nf
end
end
section
theorem rst_L1 : True := by w_top off; trivial
section
variable {prog : Program} {w : World} {A : Around} {E : Value → Shared → Prop} {s : Shared} {env : Env} {h₀ : Heap} {x : Str} {body : List Stmt} {Q : Flow → Shared → Prop}
/-- what a turn must leave behind -/
def TurnE (h₀ : Heap) (L I : Addr) (oI : Obj) (J : (Str → Option Value) → List (Addr × Obj) → Prop) (s s₂ : Shared) : Prop :=
  ∃ h' tk' m' nx, s₂ = { s with heap := h', toks := tk' } ∧ Fr h₀ L h' m' ∧ News h₀ L h' ((I, oI) :: nx) ∧ (∀ p ∈ nx, p.1 ≠ I) ∧ J m' nx
def TurnP (h₀ : Heap) (L I : Addr) (oI : Obj) (J : (Str → Option Value) → List (Addr × Obj) → Prop) (s : Shared) (Q : Flow → Shared → Prop) (f : Flow) (s₂ : Shared) : Prop :=
  match f with
  | .ret v => Q (.ret v) s₂
  | .brk => Q .next s₂
  | _ => TurnE h₀ L I oI J s s₂
theorem iter_my {l : Addr} {items : List Value} {nn : Nat} {m₀ : Str → Option Value} {news : List (Addr × Obj)} (J : Nat → (Str → Option Value) → List (Addr × Obj) → Prop)
    (hh : A.handled = none) (hl : (l, listOf items.toArray nn) ∈ news) (F : Fr h₀ env.locals s.heap m₀) (N : News h₀ env.locals s.heap news) (hj : J 0 m₀ news)
    (hlJ : ∀ i m₁ news₁, J i m₁ news₁ → (l, listOf items.toArray nn) ∈ news₁)
    (turn : ∀ i v m₁ news₁ h tk I oI m₂, items[i]? = some v → (∀ p ∈ news₁, p.1 ≠ I) → J i m₁ news₁ → m₂ x = some v → (∀ y, y ≠ x → m₂ y = m₁ y) → Fr h₀ env.locals h m₂ → News h₀ env.locals h ((I, oI) :: news₁) →
      wpAny (model prog w) A (execs body env) (TurnP h₀ env.locals I oI (J (i + 1)) { s with heap := h, toks := tk } Q) E { s with heap := h, toks := tk })
    (done : ∀ m₁ news₁ h tk, J items.length m₁ news₁ → Fr h₀ env.locals h m₁ → News h₀ env.locals h news₁ → Q .next { s with heap := h, toks := tk }) :
    wpAny (model prog w) A (pyIter (.ref l)) (fun it s₂ => LoopAtV prog w A h₀ env x body Q E it s₂) E s := by
  have hol : s.heap.get? l = some (listOf items.toArray nn) := (N _ hl).1
  have hls : s.heap.IsList l items.toArray := ⟨_, hol, rfl, nn, rfl⟩
  have hlne : l ≠ env.locals := (N _ hl).2.1
  have hlnone : h₀.get? l = none := (N _ hl).2.2
  have hlt : l < s.heap.objs.size := Heap.lt_size hol
  have hne : l ≠ s.heap.objs.size := Nat.ne_of_lt hlt
  refine wpAny_pyIter_list hls ?_
  have W := Walks.list (prog := prog) (w := w) hh s.heap.objs.size l hne items.toArray
  have hlen : items.toArray.size = items.length := by simp
  rw [hlen] at W
  refine ⟨_, _, _, items.length, _, _, m₀, news, J, rfl, W, ?_, ?_, ?_, ⟨⟨_, Heap.get?_push_size _ rfl, rfl, rfl⟩, hls.at fun o e => Heap.get?_push_of_some _ e⟩, F.push _, (fun p hp => ⟨Heap.get?_push_of_some _ (N p hp).1, (N p hp).2⟩), hj, ?_, ?_⟩
  · intro hm
    rcases List.mem_cons.mp hm with e | hm
    · exact absurd F.ns.lt (e ▸ Nat.lt_irrefl _)
    · exact hlne (List.mem_singleton.mp hm).symm
  · intro b hb
    rw [List.mem_singleton.mp hb]
    exact next_is_new F
  · intro p hp hI
    exact absurd (Heap.lt_size (N p hp).1) ((List.mem_singleton.mp hI) ▸ Nat.lt_irrefl _)
  · rintro i v m₁ news₁ s₁ own ⟨hh', tk', rfl⟩ hin hP hJ hoff hown hget hall hst F₁ N₁
    obtain ⟨⟨oI, hoI, hIc, hId⟩, _⟩ := id hst
    have hmem : (s.heap.objs.size, oI) ∈ own := hall _ (by simp) (next_is_new F) _ hoI
    have hoffI : ∀ p ∈ news₁, p.1 ≠ s.heap.objs.size := fun p hp e => hoff p hp (by rw [e]; exact List.mem_singleton.mpr rfl)
    have N₂ : News h₀ env.locals hh' ((s.heap.objs.size, oI) :: news₁) := fun p hp => by
      rcases List.mem_cons.mp hp with rfl | hp
      · exact N₁ _ (List.mem_append_left _ hmem)
      · exact N₁ _ (List.mem_append_right _ hp)
    refine wpAny_mono (turn i v m₁ news₁ hh' tk' s.heap.objs.size oI _ (by simpa using hP) hoffI hJ (by simp) (fun y hy => by simp [hy]) F₁ N₂) (fun f s₂ p => ?_) fun _ _ e => e
    have fin : TurnE h₀ env.locals s.heap.objs.size oI (J (i + 1)) { s with heap := hh', toks := tk' } s₂ → LoopStepU h₀ env.locals [s.heap.objs.size] own (J (i + 1)) { s with heap := hh', toks := tk' } .next s₂ := by
      rintro ⟨h', tk, m', nx, e, F', N', hoff', hJ'⟩
      refine ⟨rfl, h', tk, m', nx, e, F', fun p hp => ?_, fun p hp hI => hoff' p hp (List.mem_singleton.mp hI), hJ'⟩
      rcases List.mem_append.mp hp with hp | hp
      · have hfp := hown p hp
        have h2 := hget p hp
        rcases List.mem_cons.mp hfp with h1 | h1
        · have h3 : p = (s.heap.objs.size, oI) := by
            rw [h1] at h2
            exact Prod.ext h1 (Option.some.inj (h2.symm.trans hoI))
          rw [h3]; exact N' _ (List.mem_cons_self ..)
        · have h1 := List.mem_singleton.mp h1
          have hl₁ := hlJ i m₁ news₁ hJ
          have h4 : hh'.get? l = some (listOf items.toArray nn) := (N₂ _ (List.mem_cons_of_mem _ hl₁)).1
          have h3 : p = (l, listOf items.toArray nn) := by
            rw [h1] at h2
            exact Prod.ext h1 (Option.some.inj (h2.symm.trans h4))
          rw [h3]; exact N' _ (List.mem_cons_of_mem _ (hlJ _ _ _ hJ'))
      · exact N' _ (List.mem_cons_of_mem _ hp)
    cases f with
    | ret v => exact .ret p
    | brk => exact .brk p
    | next => exact .next (fin p)
    | cont => exact .cont (fin p)
  · rintro h' tk m' news' F' N' _ hJ
    exact done m' news' h' tk hJ F' N'
theorem rest_myR {r : Addr} {a₀ : Int} {n : Nat} (J : Nat → (Str → Option Value) → List (Addr × Obj) → Prop) {I : Addr}
    (turn : ∀ i t m₁ news₁ h tk oI m₂, i < n → (∀ p ∈ news₁, p.1 ≠ I) → J i m₁ news₁ → m₂ x = some (.int (a₀ + (i : Int)) t) → (∀ y, y ≠ x → m₂ y = m₁ y) → Fr h₀ env.locals h m₂ → News h₀ env.locals h ((I, oI) :: news₁) →
      wpAny (model prog w) A (execs body env) (TurnP h₀ env.locals I oI (J (i + 1)) { s with heap := h, toks := tk } Q) E { s with heap := h, toks := tk })
    (done : ∀ m₁ news₁ h tk, J n m₁ news₁ → Fr h₀ env.locals h m₁ → News h₀ env.locals h news₁ → Q .next { s with heap := h, toks := tk }) :
    ∀ k i m news, i + k = n → J i m news → (∀ p ∈ news, p.1 ≠ I) → RangeRest prog w A E h₀ env x body Q s I a₀ n k i m news
  | 0, i, m, news, hi, hj, _ => by
    have e : i = n := by omega
    subst e
    exact RangeRest.zero fun h tk F N => done m news h tk hj F N
  | k + 1, i, m, news, hi, hj, hoff => RangeRest.succ fun t h tk F N => by
    refine wpAny_mono (turn i t m news h tk _ _ (by omega) hoff hj (by simp) (fun y hy => by simp [hy]) F N) (fun f s₂ p => ?_) fun _ _ e => e
    have fin : TurnE h₀ env.locals I (itR (a₀ + ((i + 1 : Nat) : Int)) ((n : Int) - ((i + 1 : Nat) : Int))) (J (i + 1)) { s with heap := h, toks := tk } s₂ →
        UnrEnd h₀ env.locals { s with heap := h, toks := tk } I (itR (a₀ + ((i + 1 : Nat) : Int)) ((n : Int) - ((i + 1 : Nat) : Int))) (RangeRest prog w A E h₀ env x body Q s I a₀ n k (i + 1)) s₂ := by
      rintro ⟨h', tk', m', nx, e, F', N', ho, hj'⟩
      exact ⟨h', tk', m', nx, e, F', N', ho, rest_myR (r := r) J turn done k (i + 1) m' nx (by omega) hj' ho⟩
    cases f with
    | ret v => exact p
    | brk => exact p
    | next => exact fin p
    | cont => exact fin p
theorem iter_myR {r : Addr} {a₀ b₀ : Int} {t₀ u₀ v₀ : Tok} {n : Nat} {m₀ : Str → Option Value} {news : List (Addr × Obj)} (J : Nat → (Str → Option Value) → List (Addr × Obj) → Prop)
    (hh : A.handled = none) (hr : IsRange s.heap r a₀ b₀ 1 t₀ u₀ v₀) (hsmall : Builtin.Range.small a₀ b₀ 1 = true) (hn : Builtin.Range.rangeSize a₀ b₀ 1 = (n : Int)) (F : Fr h₀ env.locals s.heap m₀) (N : News h₀ env.locals s.heap news) (hj : J 0 m₀ news)
    (turn : ∀ i t m₁ news₁ h tk I oI m₂, i < n → (∀ p ∈ news₁, p.1 ≠ I) → J i m₁ news₁ → m₂ x = some (.int (a₀ + (i : Int)) t) → (∀ y, y ≠ x → m₂ y = m₁ y) → Fr h₀ env.locals h m₂ → News h₀ env.locals h ((I, oI) :: news₁) →
      wpAny (model prog w) A (execs body env) (TurnP h₀ env.locals I oI (J (i + 1)) { s with heap := h, toks := tk } Q) E { s with heap := h, toks := tk })
    (done : ∀ m₁ news₁ h tk, J n m₁ news₁ → Fr h₀ env.locals h m₁ → News h₀ env.locals h news₁ → Q .next { s with heap := h, toks := tk }) :
    wpAny (model prog w) A (pyIter (.ref r)) (fun it s₂ => LoopAtV prog w A h₀ env x body Q E it s₂) E s :=
  iter_rangeUnr hh hr hsmall hn F N fun I hI => rest_myR (r := r) J (fun i t m₁ news₁ h tk oI m₂ => turn i t m₁ news₁ h tk I oI m₂) done n 0 m₀ news (by omega) hj fun p hp => Nat.ne_of_lt (hI p hp)
end
theorem small_up {a b : Int} (ha : 0 ≤ a) (ha' : a < 2 ^ 62) (hb : 0 ≤ b) (hb' : b < 2 ^ 62) : Builtin.Range.small a b 1 = true := by
  unfold Builtin.Range.small
  rw [rangeSize_nat]
  simp only [Builtin.Range.rangeFitsLong, Bool.and_eq_true, Bool.or_eq_true, decide_eq_true_eq, beq_iff_eq, show ((1 : Int) > 0) by decide, if_true]
  omega
theorem size_up {a b : Int} {n : Nat} (h : b = a + n) : Builtin.Range.rangeSize a b 1 = (n : Int) := by
  rw [rangeSize_nat]; omega
section
variable {prog : Program} {w : World} {A : Around} {s : Shared} {env : Env} {h₀ : Heap} {x : Str} {px : Pos} {body orelse : List Stmt} {R : Result → Shared → Prop}
def TurnPR (h₀ : Heap) (L I : Addr) (oI : Obj) (J : (Str → Option Value) → List (Addr × Obj) → Prop) (s : Shared) (R : Result → Shared → Prop) (f : Flow) (s₂ : Shared) : Prop :=
  match f with
  | .ret v => R (.ok (.ret v)) s₂
  | .brk => R (.ok .next) s₂
  | _ => TurnE h₀ L I oI J s s₂
theorem iter_elseR {r : Addr} {a₀ b₀ : Int} {t₀ u₀ v₀ : Tok} {n : Nat} {m₀ : Str → Option Value} {news : List (Addr × Obj)} (J : Nat → (Str → Option Value) → List (Addr × Obj) → Prop)
    (hx : env.kindOf x = some .local) (hp : (env.scope.kind == .class || (env.scope.kind == .module && env.locals != env.globals)) = false)
    (hh : A.handled = none) (hr : IsRange s.heap r a₀ b₀ 1 t₀ u₀ v₀) (hsmall : Builtin.Range.small a₀ b₀ 1 = true) (hn : Builtin.Range.rangeSize a₀ b₀ 1 = (n : Int)) (F : Fr h₀ env.locals s.heap m₀) (N : News h₀ env.locals s.heap news) (hj : J 0 m₀ news)
    (turn : ∀ i t m₁ news₁ h tk I oI m₂, i < n → (∀ p ∈ news₁, p.1 ≠ I) → J i m₁ news₁ → m₂ x = some (.int (a₀ + (i : Int)) t) → (∀ y, y ≠ x → m₂ y = m₁ y) → Fr h₀ env.locals h m₂ → News h₀ env.locals h ((I, oI) :: news₁) →
      wpAny (model prog w) A (execs body env) (TurnPR h₀ env.locals I oI (J (i + 1)) { s with heap := h, toks := tk } R) (notedBy (model prog w) A env fun e s' => R (.error e) s') { s with heap := h, toks := tk })
    (done : ∀ m₁ news₁ h tk, J n m₁ news₁ → Fr h₀ env.locals h m₁ → News h₀ env.locals h news₁ →
      wpAny (model prog w) A (execs orelse env) (fun f s' => R (.ok f) s') (notedBy (model prog w) A env fun e s' => R (.error e) s') { s with heap := h, toks := tk }) :
    wpAny (model prog w) A (pyIter (.ref r)) (fun it s₂ => codeAny (model prog w) A (.forLoop (.Name x px) it body orelse env) R s₂) (fun _ _ => False) s := by
  refine wpAny_pyIter_range hr hsmall ?_
  have W : Walks prog w A s.heap.objs.size [s.heap.objs.size] [s.heap.objs.size] n (fun i v => i < n ∧ ∃ t, v = .int (a₀ + i * 1) t)
      (fun i h => IsRangeIter h s.heap.objs.size (a₀ + (i : Nat) * 1) ((n : Int) - (i : Nat)) 1) := (Walks.range hh _ a₀ 1 n).bound
  have hnew : h₀.get? s.heap.objs.size = none := next_is_new F
  have hLne : env.locals ≠ s.heap.objs.size := Nat.ne_of_lt F.ns.lt
  generalize hI : s.heap.objs.size = I at W hnew hLne
  have old : ∀ b o, h₀.get? b = some o → b ≠ I := fun b o e q => by rw [q, hnew] at e; cases e
  refine codeAny_forLoop (fun k s' => ∃ h' tk m' news' i, s' = { s with heap := h', toks := tk } ∧ IsRangeIter h' I (a₀ + (i : Nat) * 1) ((n : Int) - (i : Nat)) 1 ∧ Fr h₀ env.locals h' m' ∧ News h₀ env.locals h' news' ∧ (∀ p ∈ news', p.1 ≠ I) ∧ J i m' news' ∧ i ≤ n ∧ k = n + 1 - i) ?_ (n + 1) ?_
  · rintro k s' ⟨h', tk, m', news', i, rfl, hst, F', N', ho', hJ, hi, rfl⟩
    have next : ∀ h₁ : Heap, (∀ b o, b ∉ [I] → h'.get? b = some o → h₁.get? b = some o) → Fr h₀ env.locals h₁ m' ∧ News h₀ env.locals h₁ news' := fun h₁ hk₁ =>
      ⟨⟨F'.ns.at' fun o e => hk₁ _ o (fun q => hLne (List.mem_singleton.mp q)) e, fun b o e => hk₁ b o (fun q => old b o e (List.mem_singleton.mp q)) (F'.keep b o e), F'.above⟩, fun p hp => ⟨hk₁ _ _ (fun q => ho' p hp (List.mem_singleton.mp q)) (N' p hp).1, (N' p hp).2⟩⟩
    by_cases hlt : i < n
    · refine W.item i _ _ _ hlt hst fun v h₁ tk₁ hP hst₁ hk₁ => ?_
      obtain ⟨_, t, rfl⟩ := hP
      obtain ⟨F₁, N₁⟩ := next h₁ hk₁
      refine wpAny_assign_Name (wpAny_storeName_local hx F₁.ns (fun h₂ hn₂ hs₂ => ?_) hp)
      have F₂ := F₁.set hn₂ hs₂
      have hst₂ : IsRangeIter h₂ I (a₀ + ((i + 1 : Nat) : Int) * 1) ((n : Int) - ((i + 1 : Nat) : Int)) 1 := (hs₂.2 I fun q => hLne q.symm).trans hst₁
      have e1 : a₀ + (i : Int) * 1 = a₀ + (i : Int) := by rw [Int.mul_one]
      rw [e1] at F₂
      have N₂ : News h₀ env.locals h₂ ((I, itR (a₀ + ((i + 1 : Nat) : Int) * 1) ((n : Int) - ((i + 1 : Nat) : Int))) :: news') := fun p hp => by
        rcases List.mem_cons.mp hp with rfl | hp
        · exact ⟨hst₂, fun q => hLne q.symm, hnew⟩
        · exact (N₁.set hs₂) p hp
      refine wpAny_mono (turn i t m' news' h₂ _ I _ _ hlt ho' hJ (by simp) (fun y hy => by simp [hy]) F₂ N₂) (fun f s₃ h₃ => ?_) fun _ _ e => e
      have fin : TurnE h₀ env.locals I (itR (a₀ + ((i + 1 : Nat) : Int) * 1) ((n : Int) - ((i + 1 : Nat) : Int))) (J (i + 1)) { s with heap := h₂, toks := tk₁ + 1 } s₃ →
          ∃ m, m < n + 1 - i ∧ ∃ h' tk m' news' i, s₃ = { s with heap := h', toks := tk } ∧ IsRangeIter h' I (a₀ + (i : Nat) * 1) ((n : Int) - (i : Nat)) 1 ∧ Fr h₀ env.locals h' m' ∧ News h₀ env.locals h' news' ∧ (∀ p ∈ news', p.1 ≠ I) ∧ J i m' news' ∧ i ≤ n ∧ m = n + 1 - i := by
        rintro ⟨h'', tk'', m'', nx, e, F'', N'', ho'', hJ''⟩
        exact ⟨n + 1 - (i + 1), by omega, h'', tk'', m'', nx, i + 1, e, (N'' _ (.head _)).1, F'', fun p hp => N'' p (.tail _ hp), ho'', hJ'', hlt, rfl⟩
      cases f with
      | ret v => exact h₃
      | brk => exact h₃
      | next => exact fin h₃
      | cont => exact fin h₃
    · have hin : i = n := by omega
      subst hin
      refine W.done _ _ _ hst fun h₁ tk₁ hk₁ => ?_
      obtain ⟨F₁, N₁⟩ := next h₁ hk₁
      exact done m' news' h₁ tk₁ hJ F₁ N₁
  · refine ⟨s.heap.push { cls := .type "range_iterator", data := .fields #[rawInt a₀, rawInt (Builtin.Range.rangeSize a₀ b₀ 1), rawInt 1] }, s.toks, m₀, news, 0, rfl, ?_, F.push _, (fun p hp => ⟨Heap.get?_push_of_some _ (N p hp).1, (N p hp).2⟩), ?_, hj, Nat.zero_le _, rfl⟩
    · show IsRangeIter _ _ _ _ _
      rw [hn, ← hI]
      simpa using Heap.get?_push_size _ rfl
    · intro p hp q
      have := Heap.lt_size (N p hp).1
      rw [q, ← hI] at this
      exact Nat.lt_irrefl _ this
end
end
section
theorem rst_D1 : True := by w_top off; trivial
/-- the numbers that the law's two little tables hold -/
def ends (kind : Int) : Int := if kind = 12 then 4095 else if kind = 16 then 65535 else 268435455
def badv (kind : Int) : Int := if kind = 12 then 4087 else if kind = 16 then 65527 else 268435447
def take (ns : List Int) (k many : Int) : Int :=
  if ns = [] then (13 * k + 5) % many else (ns.getD (k % (ns.length : Int)).toNat 0 + 7 * k * (k / (ns.length : Int))) % many
theorem take_bounds (ns : List Int) (k many : Int) (h : 0 < many) : 0 ≤ take ns k many ∧ take ns k many < many := by
  unfold take
  split
  · exact ⟨Int.emod_nonneg _ (by omega), Int.emod_lt_of_pos _ h⟩
  · exact ⟨Int.emod_nonneg _ (by omega), Int.emod_lt_of_pos _ h⟩
def base0 (kind : Int) (marks : List Bool) : List Int := [ends kind, ends kind] ++ marks.map fun b => if b then badv kind else 0
def putStep (e : Int) (chain t : List Int) (k : Nat) : List Int := t.set (chain.getD k 0).toNat (if k + 1 < chain.length then chain.getD (k + 1) 0 else e)
def putChain (e : Int) (t chain : List Int) : List Int := (List.range chain.length).foldl (putStep e chain) t
def tableOf (kind : Int) (marks : List Bool) (chains : List (List Int)) : List Int := chains.foldl (putChain (ends kind)) (base0 kind marks)
def Kind (kind : Int) : Prop := kind = 12 ∨ kind = 16 ∨ kind = 32
/-- the ledger bears the chains' lists -/
inductive ChsIn (news : List (Addr × Obj)) : List Value → List (List Int) → Prop where
  | nil : ChsIn news [] []
  | cons {a : Addr} {n : Nat} {vs : List Value} {c : List Int} {rs : List Value} {cs : List (List Int)} : (a, listOf vs.toArray n) ∈ news → IntsAre vs c → ChsIn news rs cs → ChsIn news (.ref a :: rs) (c :: cs)
theorem ChsIn.mono {news news' : List (Addr × Obj)} {rs : List Value} {cs : List (List Int)} (h : ChsIn news rs cs) (hs : ∀ p ∈ news, p ∈ news') : ChsIn news' rs cs := by
  induction h with
  | nil => exact .nil
  | cons hm hi _ ih => exact .cons (hs _ hm) hi ih
theorem ChsIn.length {news : List (Addr × Obj)} {rs : List Value} {cs : List (List Int)} (h : ChsIn news rs cs) : rs.length = cs.length := by
  induction h with
  | nil => rfl
  | cons _ _ _ ih => simp [ih]
theorem ChsIn.get {news : List (Addr × Obj)} {rs : List Value} {cs : List (List Int)} (h : ChsIn news rs cs) : ∀ (i : Nat) (v : Value), rs[i]? = some v → ∃ a n vs c, v = .ref a ∧ cs[i]? = some c ∧ (a, listOf vs.toArray n) ∈ news ∧ IntsAre vs c := by
  induction h with
  | nil => intro i v e; simp at e
  | cons hm hi _ ih =>
    intro i v e
    cases i with
    | zero => simp at e; subst e; exact ⟨_, _, _, _, rfl, rfl, hm, hi⟩
    | succ i => simpa using ih i v (by simpa using e)
theorem base0_snoc (kind : Int) (bs : List Bool) (i : Nat) (b : Bool) (hb : bs[i]? = some b) : base0 kind (bs.take (i + 1)) = base0 kind (bs.take i) ++ [if b then badv kind else 0] := by
  unfold base0
  rw [List.take_add_one, hb]
  simp
def putPart (e : Int) (chain t : List Int) (k : Nat) : List Int := (List.range k).foldl (putStep e chain) t
theorem putPart_succ (e : Int) (chain t : List Int) (k : Nat) : putPart e chain t (k + 1) = putStep e chain (putPart e chain t k) k := by
  unfold putPart
  rw [List.range_succ, List.foldl_append]
  rfl
theorem putStep_length (e : Int) (chain t : List Int) (k : Nat) : (putStep e chain t k).length = t.length := by simp [putStep]
theorem putPart_length (e : Int) (chain t : List Int) (k : Nat) : (putPart e chain t k).length = t.length := by
  induction k with
  | zero => rfl
  | succ k ih => rw [putPart_succ, putStep_length, ih]
theorem putChain_eq (e : Int) (t chain : List Int) : putChain e t chain = putPart e chain t chain.length := rfl
theorem tablePart_length (e : Int) (t : List Int) (cs : List (List Int)) : (cs.foldl (putChain e) t).length = t.length := by
  induction cs generalizing t with
  | nil => rfl
  | cons c cs ih => rw [List.foldl_cons, ih, putChain_eq, putPart_length]
theorem base0_length (kind : Int) (bs : List Bool) : (base0 kind bs).length = bs.length + 2 := by simp [base0]
theorem tableOf_length (kind : Int) (bs : List Bool) (cs : List (List Int)) : (tableOf kind bs cs).length = bs.length + 2 := by
  unfold tableOf; rw [tablePart_length, base0_length]
theorem fold_snoc {α β : Type} (f : β → α → β) (z : β) (l : List α) (i : Nat) (a : α) (h : l[i]? = some a) : (l.take (i + 1)).foldl f z = f ((l.take i).foldl f z) a := by
  rw [List.take_add_one, h]; simp
/-- the volume's own dict: its keys' tokens k, the values that nothing here reads v -/
abbrev volEs (P : Params) (k : Nat → Tok) (v : Nat → Value) (bpc ffc kind fat init ro : Value) : List DictEntry :=
  [⟨PyData.keyHash P (Str.ofString "_fp"), .str (Str.ofString "_fp") (k 0), v 0⟩,
   ⟨PyData.keyHash P (Str.ofString "_fp_offset"), .str (Str.ofString "_fp_offset") (k 1), v 1⟩,
   ⟨PyData.keyHash P (Str.ofString "_fat_size"), .str (Str.ofString "_fat_size") (k 2), v 2⟩,
   ⟨PyData.keyHash P (Str.ofString "bpb_header"), .str (Str.ofString "bpb_header") (k 3), v 3⟩,
   ⟨PyData.keyHash P (Str.ofString "root_dir"), .str (Str.ofString "root_dir") (k 4), v 4⟩,
   ⟨PyData.keyHash P (Str.ofString "root_dir_sector"), .str (Str.ofString "root_dir_sector") (k 5), v 5⟩,
   ⟨PyData.keyHash P (Str.ofString "root_dir_sectors"), .str (Str.ofString "root_dir_sectors") (k 6), v 6⟩,
   ⟨PyData.keyHash P (Str.ofString "bytes_per_cluster"), .str (Str.ofString "bytes_per_cluster") (k 7), bpc⟩,
   ⟨PyData.keyHash P (Str.ofString "first_data_sector"), .str (Str.ofString "first_data_sector") (k 8), v 8⟩,
   ⟨PyData.keyHash P (Str.ofString "first_free_cluster"), .str (Str.ofString "first_free_cluster") (k 9), ffc⟩,
   ⟨PyData.keyHash P (Str.ofString "fat_type"), .str (Str.ofString "fat_type") (k 10), kind⟩,
   ⟨PyData.keyHash P (Str.ofString "fat"), .str (Str.ofString "fat") (k 11), fat⟩,
   ⟨PyData.keyHash P (Str.ofString "initialized"), .str (Str.ofString "initialized") (k 12), init⟩,
   ⟨PyData.keyHash P (Str.ofString "encoding"), .str (Str.ofString "encoding") (k 13), v 13⟩,
   ⟨PyData.keyHash P (Str.ofString "is_read_only"), .str (Str.ofString "is_read_only") (k 14), ro⟩,
   ⟨PyData.keyHash P (Str.ofString "lazy_load"), .str (Str.ofString "lazy_load") (k 15), v 15⟩]
end
section
theorem rst_E1 : True := by w_top off; trivial
abbrev scT : Scope := { kind := ScopeKind.function, names := [(Str.ofString "kind", NameKind.local), (Str.ofString "marks", NameKind.local), (Str.ofString "chains", NameKind.local), (Str.ofString "table", NameKind.local), (Str.ofString "mark", NameKind.local), (Str.ofString "chain", NameKind.local), (Str.ofString "k", NameKind.local), (Str.ofString "_law_ends", NameKind.globalImplicit), (Str.ofString "_law_bad", NameKind.globalImplicit), (Str.ofString "range", NameKind.globalImplicit), (Str.ofString "len", NameKind.globalImplicit)], isGenerator := false, isCoroutine := false }
abbrev envT (L : Addr) : Env := envOf (Str.ofString "_law_table") scT L 348 (Value.ref 347)
section
variable {w : World} {mean : ExcName → Option Value} {mg mb : Str → Option Value} {dp un : Nat} {gd : Option (List Code)} {env : Env} {outer : List Env} {base g : Heap} {L : Addr} {m : Str → Option Value} {news : List (Addr × Obj)} {s : Shared} {Q E : Value → Shared → Prop} {kind : Int} {tk : Tok}
theorem ends_sub {p1 p2 p3 p4 : Pos} (B : Below (arTop dp un gd env outer) base (env :: outer) g) (F : Fr g L s.heap m) (X : (Mine.hd.heap_1 w.params).In g) (N : News g L s.heap news)
    (T : Top Mine.hd.view_39 (looseW Mine.hd.view_39 [Str.ofString "PyFATException", Str.ofString "errno", Str.ofString "PyFat"]) mean mg mb g)
    (hkd : m (Str.ofString "kind") = some (.int kind tk)) (hk : Kind kind) (hdp : dp + 4 < recursionLimit) (hun : un + 24 < cLine)
    (hret : ∀ t h' tk', Fr g L h' m → News g L h' news → Q (.int (ends kind) t) { s with heap := h', toks := tk' }) :
    wpAny (model PySem.Challenge.rw_jr0029_01.row.prog w) ((arTop dp un gd env outer).deeper (envT L)) (eval (Expr.Subscript (Expr.Call (Expr.Name (Str.ofString "_law_ends") p1) [] [] p2) (Expr.Name (Str.ofString "kind") p3) p4) (envT L)) Q E s := by
  rcases hk with rfl | rfl | rfl
  all_goals (
    (repeat' ((fail_if_success (with_reducible show wpAny _ _ (pyIter (Value.ref _)) _ _ _)); (first | (k_unfold; (try dsimp only)) | (k_end; wrow_close) | walk1 | (dsimp only; walk1) | ((dsimp only [List.nil_append, List.cons_append]); walk1) | (leave1; (try dsimp only)) | fail "no step")))
    first | exact hret _ _ _ (by k_asm) (by first | k_asm | exact cb_drop (by k_asm) (by kcj_all)))
theorem bad_sub {p1 p2 p3 p4 : Pos} (B : Below (arTop dp un gd env outer) base (env :: outer) g) (F : Fr g L s.heap m) (X : (Mine.hd.heap_1 w.params).In g) (N : News g L s.heap news)
    (T : Top Mine.hd.view_39 (looseW Mine.hd.view_39 [Str.ofString "PyFATException", Str.ofString "errno", Str.ofString "PyFat"]) mean mg mb g)
    (hkd : m (Str.ofString "kind") = some (.int kind tk)) (hk : Kind kind) (hdp : dp + 4 < recursionLimit) (hun : un + 24 < cLine)
    (hret : ∀ t h' tk', Fr g L h' m → News g L h' news → Q (.int (badv kind) t) { s with heap := h', toks := tk' }) :
    wpAny (model PySem.Challenge.rw_jr0029_01.row.prog w) ((arTop dp un gd env outer).deeper (envT L)) (eval (Expr.Subscript (Expr.Call (Expr.Name (Str.ofString "_law_bad") p1) [] [] p2) (Expr.Name (Str.ofString "kind") p3) p4) (envT L)) Q E s := by
  rcases hk with rfl | rfl | rfl
  all_goals (
    (repeat' ((fail_if_success (with_reducible show wpAny _ _ (pyIter (Value.ref _)) _ _ _)); (first | (k_unfold; (try dsimp only)) | (k_end; wrow_close) | walk1 | (dsimp only; walk1) | ((dsimp only [List.nil_append, List.cons_append]); walk1) | (leave1; (try dsimp only)) | fail "no step")))
    first | exact hret _ _ _ (by k_asm) (by first | k_asm | exact cb_drop (by k_asm) (by kcj_all)))
end
end
section
theorem rst_T1 : True := by w_top off; trivial
theorem table_claim (w : World) (mean : ExcName → Option Value) (mg mb : Str → Option Value) (news : List (Addr × Obj)) (lm lc : Addr) (bs : List Bool) (rs : List Value) (nm nc : Nat) (kind : Int) (tkk : Tok) (chains : List (List Int))
   (dp un : Nat) (gd : Option (List Code)) (env : Env) (outer : List Env) (A₀ : Around) (base h₀ : Heap) (L : Addr) (m : Str → Option Value) (s : Shared) (Q E : Value → Shared → Prop)
    (B : Below A₀ base outer h₀) (F : Fr h₀ L s.heap m) (X : (Mine.hd.heap_1 w.params).In h₀) (N : News h₀ L s.heap news) (T : Top Mine.hd.view_39 (looseW Mine.hd.view_39 [Str.ofString "PyFATException", Str.ofString "errno", Str.ofString "PyFat"]) mean mg mb h₀) (hcs : env.scope.kind = .function) (hfr : env.frame = some L)
    (hm : (lm, listOf (bs.map Value.bool).toArray nm) ∈ news) (hc : (lc, listOf rs.toArray nc) ∈ news) (hch : ChsIn news rs chains)
    (hk : Kind kind) (hbl : bs.length ≤ 40) (hin : ∀ c ∈ chains, c.length ≤ 40 ∧ ∀ z ∈ c, 0 ≤ z ∧ z < (bs.length : Int) + 2)
    (hdp : dp + 6 < recursionLimit) (hun : un + 40 < cLine)
    (hret : ∀ r h' tk' n vs, Fr h₀ L h' m → News h₀ L h' ((r, listOf (List.toArray vs) n) :: news) → (∀ p ∈ news, p.1 < r) → IntsAre vs (tableOf kind bs chains) → Q (.ref r) { s with heap := h', toks := tk' }) :
      wpAny (model PySem.Challenge.rw_jr0029_01.row.prog w) (arTop dp un gd env outer) (call (.ref 348) [.int kind tkk, .ref lm, .ref lc]) Q E s := by
  refine wpAny_call ?_
  k_dflt (walk_at "my_enter")
  (repeat' ((fail_if_success (with_reducible show wpAny _ _ (pyIter (Value.ref _)) _ _ _)); (first | (k_unfold; (try dsimp only)) | (((with_reducible show wpAny _ _ (eval (Expr.Subscript (Expr.Call (Expr.Name (Str.ofString "_law_bad") _) [] [] _) (Expr.Name (Str.ofString "kind") _) _) _) _ _ _); k_dflt (refine' bad_sub ?sB ?sF ?sX ?sN ?sT ?sk ?shk ?sd ?su ?_; (case sB | sF | sX | sN | sT => k_asm); (case sk => first | exact rfl | assumption); (case shk => assumption); (case sd | su => omega); k_whole); intro _ _ _ _ _; (try k_sweep); (try k_fold))) | (((with_reducible show wpAny _ _ (eval (Expr.Subscript (Expr.Call (Expr.Name (Str.ofString "_law_ends") _) [] [] _) (Expr.Name (Str.ofString "kind") _) _) _) _ _ _); k_dflt (refine' ends_sub ?sB ?sF ?sX ?sN ?sT ?sk ?shk ?sd ?su ?_; (case sB | sF | sX | sN | sT => k_asm); (case sk => first | exact rfl | assumption); (case shk => assumption); (case sd | su => omega); k_whole); intro _ _ _ _ _; (try k_sweep); (try k_fold))) | (k_end; wrow_close) | walk1 | (dsimp only; walk1) | ((dsimp only [List.nil_append, List.cons_append]); walk1) | (leave1; (try dsimp only)) | fail "no step")))
  rename Fr _ _ _ _ => F1
  rename News _ _ _ _ => N1
  rename (∀ (p : Addr × Obj), p ∈ news → p.fst < _) => hlt
  rename_i lt hA hB
  have hne : ∀ p ∈ news, p.1 ≠ lt := fun p hp => Nat.ne_of_lt (hlt p hp)
  refine iter_my (fun i m₁ nx => (∃ vs n, nx = (lt, listOf vs.toArray n) :: news ∧ IntsAre vs (base0 kind (bs.take i))) ∧ m₁ (Str.ofString "kind") = some (.int kind tkk) ∧ m₁ (Str.ofString "chains") = some (.ref lc) ∧ m₁ (Str.ofString "table") = some (.ref lt)) rfl (List.mem_cons_of_mem _ hm) F1 N1 ⟨⟨_, _, rfl, .cons _ _ (.cons _ _ .nil)⟩, rfl, rfl, rfl⟩ ?_ ?_ ?_
  · rintro i m₁ nx ⟨⟨vs, n, rfl, _⟩, _⟩
    exact List.mem_cons_of_mem _ hm
  · rintro i v m₁ nx h tk1 I oI m₂ hv hoff ⟨⟨vs, n, rfl, hi⟩, hkd, hcn, htb⟩ hx hy F₂ N₂
    obtain ⟨b, hb, rfl⟩ : ∃ b, bs[i]? = some b ∧ Value.bool b = v := by simpa using hv
    have k1 := (hy (Str.ofString "kind") (by decide)).trans hkd
    have k2 := (hy (Str.ofString "table") (by decide)).trans htb
    have hI : @Ne Nat I lt := fun e => hoff (lt, _) (.head _) e.symm
    have k3 := (hy (Str.ofString "chains") (by decide)).trans hcn
    have hoff' : ∀ p ∈ news, p.1 ≠ I := fun p hp => hoff p (.tail _ hp)
    clear hy
    have hlen : vs.length ≤ 44 := by
      have := hi.length
      simp only [base0, List.length_append, List.length_map, List.length_take, List.length_cons, List.length_nil] at this
      omega
    have hsn := base0_snoc kind bs i _ hb
    cases b
    all_goals (
      (repeat' ((fail_if_success (with_reducible show wpAny _ _ (pyIter (Value.ref _)) _ _ _)); (first | (k_unfold; (try dsimp only)) | (((with_reducible show wpAny _ _ (eval (Expr.Subscript (Expr.Call (Expr.Name (Str.ofString "_law_bad") _) [] [] _) (Expr.Name (Str.ofString "kind") _) _) _) _ _ _); k_dflt (refine' bad_sub ?sB ?sF ?sX ?sN ?sT ?sk ?shk ?sd ?su ?_; (case sB | sF | sX | sN | sT => k_asm); (case sk => first | exact rfl | assumption); (case shk => assumption); (case sd | su => omega); k_whole); intro _ _ _ _ _; (try k_sweep); (try k_fold))) | (((with_reducible show wpAny _ _ (eval (Expr.Subscript (Expr.Call (Expr.Name (Str.ofString "_law_ends") _) [] [] _) (Expr.Name (Str.ofString "kind") _) _) _) _ _ _); k_dflt (refine' ends_sub ?sB ?sF ?sX ?sN ?sT ?sk ?shk ?sd ?su ?_; (case sB | sF | sX | sN | sT => k_asm); (case sk => first | exact rfl | assumption); (case shk => assumption); (case sd | su => omega); k_whole); intro _ _ _ _ _; (try k_sweep); (try k_fold))) | (k_end; wrow_close) | walk1 | (dsimp only; walk1) | ((dsimp only [List.nil_append, List.cons_append]); walk1) | (leave1; (try dsimp only)) | fail "no step")))
      refine ⟨_, _, _, _, rfl, by k_asm, by k_asm, ?_, ⟨_, _, by rw [List.push_toArray], ?_⟩, k1, k3, k2⟩
      · exact fun p hp => by
          rcases List.mem_cons.mp hp with rfl | hp
          · exact hI.symm
          · exact hoff' p hp
      · rw [hsn]
        exact IntsAre.append hi (.cons _ _ .nil))
  · rintro m₁ nx h tk1 ⟨⟨vs, n, rfl, hi⟩, hkd, hcn, htb⟩ F₂ N₂
    rw [List.length_map, List.take_length] at hi
    (repeat' ((fail_if_success (with_reducible show wpAny _ _ (pyIter (Value.ref _)) _ _ _)); (first | (k_unfold; (try dsimp only)) | (((with_reducible show wpAny _ _ (eval (Expr.Subscript (Expr.Call (Expr.Name (Str.ofString "_law_bad") _) [] [] _) (Expr.Name (Str.ofString "kind") _) _) _) _ _ _); k_dflt (refine' bad_sub ?sB ?sF ?sX ?sN ?sT ?sk ?shk ?sd ?su ?_; (case sB | sF | sX | sN | sT => k_asm); (case sk => first | exact rfl | assumption); (case shk => assumption); (case sd | su => omega); k_whole); intro _ _ _ _ _; (try k_sweep); (try k_fold))) | (((with_reducible show wpAny _ _ (eval (Expr.Subscript (Expr.Call (Expr.Name (Str.ofString "_law_ends") _) [] [] _) (Expr.Name (Str.ofString "kind") _) _) _) _ _ _); k_dflt (refine' ends_sub ?sB ?sF ?sX ?sN ?sT ?sk ?shk ?sd ?su ?_; (case sB | sF | sX | sN | sT => k_asm); (case sk => first | exact rfl | assumption); (case shk => assumption); (case sd | su => omega); k_whole); intro _ _ _ _ _; (try k_sweep); (try k_fold))) | (k_end; wrow_close) | walk1 | (dsimp only; walk1) | ((dsimp only [List.nil_append, List.cons_append]); walk1) | (leave1; (try dsimp only)) | fail "no step")))
    rename Fr _ _ _ _ => F3
    rename News _ _ _ _ => N3
    refine iter_my (fun i m₁ nx => (∃ vs n, nx = (lt, listOf vs.toArray n) :: news ∧ IntsAre vs ((chains.take i).foldl (putChain (ends kind)) (base0 kind bs))) ∧ m₁ (Str.ofString "kind") = some (.int kind tkk) ∧ m₁ (Str.ofString "table") = some (.ref lt)) rfl (List.mem_cons_of_mem _ hc) F3 N3 ⟨⟨_, _, rfl, hi⟩, hkd, htb⟩ ?_ ?_ ?_
    · rintro i m₁ nx ⟨⟨vs, n, rfl, _⟩, _⟩
      exact List.mem_cons_of_mem _ hc
    · rintro i v m₁ nx h tk1 I oI m₂ hv hoff ⟨⟨vs, n, rfl, hi⟩, hkd, htb⟩ hx hy F₂ N₂
      obtain ⟨ac, nac, cvs, c, rfl, hci, hcm, hcint⟩ := hch.get i v hv
      have k1 := (hy (Str.ofString "kind") (by decide)).trans hkd
      have k2 := (hy (Str.ofString "table") (by decide)).trans htb
      have hI : @Ne Nat I lt := fun e => hoff (lt, _) (.head _) e.symm
      have hoff' : ∀ p ∈ news, p.1 ≠ I := fun p hp => hoff p (.tail _ hp)
      clear hy
      have hcl := hin c (List.mem_of_getElem? hci)
      have hcv := hcint.length
      (repeat' ((fail_if_success (with_reducible show wpAny _ _ (pyIter (Value.ref _)) _ _ _)); (first | (k_unfold; (try dsimp only)) | (((with_reducible show wpAny _ _ (eval (Expr.Subscript (Expr.Call (Expr.Name (Str.ofString "_law_bad") _) [] [] _) (Expr.Name (Str.ofString "kind") _) _) _) _ _ _); k_dflt (refine' bad_sub ?sB ?sF ?sX ?sN ?sT ?sk ?shk ?sd ?su ?_; (case sB | sF | sX | sN | sT => k_asm); (case sk => first | exact rfl | assumption); (case shk => assumption); (case sd | su => omega); k_whole); intro _ _ _ _ _; (try k_sweep); (try k_fold))) | (((with_reducible show wpAny _ _ (eval (Expr.Subscript (Expr.Call (Expr.Name (Str.ofString "_law_ends") _) [] [] _) (Expr.Name (Str.ofString "kind") _) _) _) _ _ _); k_dflt (refine' ends_sub ?sB ?sF ?sX ?sN ?sT ?sk ?shk ?sd ?su ?_; (case sB | sF | sX | sN | sT => k_asm); (case sk => first | exact rfl | assumption); (case shk => assumption); (case sd | su => omega); k_whole); intro _ _ _ _ _; (try k_sweep); (try k_fold))) | (k_end; wrow_close) | walk1 | (dsimp only; walk1) | ((dsimp only [List.nil_append, List.cons_append]); walk1) | (leave1; (try dsimp only)) | fail "no step")))
      rename Fr _ _ _ _ => F5
      rename News _ _ _ _ => N5
      rename IsRange _ _ _ _ _ _ _ _ => hR
      refine iter_myR (n := c.length) (fun k m₁ nx => (∃ vs n, nx = (I, oI) :: (lt, listOf vs.toArray n) :: news ∧ IntsAre vs (putPart (ends kind) c ((chains.take i).foldl (putChain (ends kind)) (base0 kind bs)) k)) ∧ m₁ (Str.ofString "kind") = some (.int kind tkk) ∧ m₁ (Str.ofString "table") = some (.ref lt) ∧ m₁ (Str.ofString "chain") = some (.ref ac)) rfl hR (small_up (by omega) (by omega) (by omega) (by omega)) (size_up (by omega)) F5 N5 ⟨⟨_, _, rfl, hi⟩, k1, k2, hx⟩ ?_ ?_
      · rintro k t m₁ nx h tk1 I2 oI2 m₃ hk9 hoff2 ⟨⟨vs, n, rfl, hi⟩, hkd, htb, hcc⟩ hx2 hy F₂ N₂
        have k1 := (hy (Str.ofString "kind") (by decide)).trans hkd
        have k2 := (hy (Str.ofString "table") (by decide)).trans htb
        have k3 := (hy (Str.ofString "chain") (by decide)).trans hcc
        clear hy
        have hI2 : @Ne Nat I2 lt := fun e => hoff2 (lt, _) (.tail _ (.head _)) e.symm
        have hI3 : @Ne Nat I2 I := fun e => hoff2 (I, _) (.head _) e.symm
        have hL9 : (putPart (ends kind) c ((chains.take i).foldl (putChain (ends kind)) (base0 kind bs)) k).length = bs.length + 2 := by
          rw [putPart_length, tablePart_length, base0_length]
        have hz : 0 ≤ c.getD (0 + (k : Int)).toNat 0 ∧ c.getD (0 + (k : Int)).toNat 0 < (bs.length : Int) + 2 := by
          refine hcl.2 _ ?_
          have e : (0 + (k : Int)).toNat = k := by omega
          rw [e, List.getD_eq_getElem?_getD, List.getElem?_eq_getElem hk9]
          exact List.getElem_mem _
        have e1 : (0 + (k : Int)).toNat = k := by omega
        have e2 : (0 + (k : Int) + 1).toNat = k + 1 := by omega
        (repeat' ((fail_if_success (with_reducible show wpAny _ _ (pyIter (Value.ref _)) _ _ _)); (first | (k_unfold; (try dsimp only)) | (((with_reducible show wpAny _ _ (eval (Expr.Subscript (Expr.Call (Expr.Name (Str.ofString "_law_bad") _) [] [] _) (Expr.Name (Str.ofString "kind") _) _) _) _ _ _); k_dflt (refine' bad_sub ?sB ?sF ?sX ?sN ?sT ?sk ?shk ?sd ?su ?_; (case sB | sF | sX | sN | sT => k_asm); (case sk => first | exact rfl | assumption); (case shk => assumption); (case sd | su => omega); k_whole); intro _ _ _ _ _; (try k_sweep); (try k_fold))) | (((with_reducible show wpAny _ _ (eval (Expr.Subscript (Expr.Call (Expr.Name (Str.ofString "_law_ends") _) [] [] _) (Expr.Name (Str.ofString "kind") _) _) _) _ _ _); k_dflt (refine' ends_sub ?sB ?sF ?sX ?sN ?sT ?sk ?shk ?sd ?su ?_; (case sB | sF | sX | sN | sT => k_asm); (case sk => first | exact rfl | assumption); (case shk => assumption); (case sd | su => omega); k_whole); intro _ _ _ _ _; (try k_sweep); (try k_fold))) | (k_end; wrow_close) | walk1 | (dsimp only; walk1) | ((dsimp only [List.nil_append, List.cons_append]); walk1) | (leave1; (try dsimp only)) | fail "no step")))
        all_goals (
          rename IntsAre _ _ => hi2
          refine ⟨_, _, _, _, rfl, by k_asm, by k_asm, ?_, ⟨_, _, rfl, ?_⟩, k1, k2, k3⟩
          · exact fun p hp => by
              rcases List.mem_cons.mp hp with rfl | hp
              · exact hI3.symm
              · rcases List.mem_cons.mp hp with rfl | hp
                · exact hI2.symm
                · exact hoff2 p (.tail _ (.tail _ hp))
          · rw [putPart_succ]
            unfold putStep
            simp only [e1, e2] at hi2 ⊢
            split
            all_goals first | exact hi2 | (exfalso; omega))
      · rintro m₁ nx h tk1 ⟨⟨vs, n, rfl, hi⟩, hkd, htb, hcc⟩ F₂ N₂
        refine wpAny_execs_nil ?_
        refine ⟨_, _, _, _, rfl, F₂, N₂, ?_, ⟨_, _, rfl, ?_⟩, hkd, htb⟩
        · exact fun p hp => by
            rcases List.mem_cons.mp hp with rfl | hp
            · exact hI.symm
            · exact hoff' p hp
        · rw [fold_snoc _ _ _ _ _ hci, putChain_eq]
          exact hi
    · rintro m₁ nx h tk1 ⟨⟨vs, n, rfl, hi⟩, hkd, htb⟩ F₂ N₂
      rw [ChsIn.length hch, List.take_length] at hi
      (repeat' ((fail_if_success (with_reducible show wpAny _ _ (pyIter (Value.ref _)) _ _ _)); (first | (k_unfold; (try dsimp only)) | (((with_reducible show wpAny _ _ (eval (Expr.Subscript (Expr.Call (Expr.Name (Str.ofString "_law_bad") _) [] [] _) (Expr.Name (Str.ofString "kind") _) _) _) _ _ _); k_dflt (refine' bad_sub ?sB ?sF ?sX ?sN ?sT ?sk ?shk ?sd ?su ?_; (case sB | sF | sX | sN | sT => k_asm); (case sk => first | exact rfl | assumption); (case shk => assumption); (case sd | su => omega); k_whole); intro _ _ _ _ _; (try k_sweep); (try k_fold))) | (((with_reducible show wpAny _ _ (eval (Expr.Subscript (Expr.Call (Expr.Name (Str.ofString "_law_ends") _) [] [] _) (Expr.Name (Str.ofString "kind") _) _) _) _ _ _); k_dflt (refine' ends_sub ?sB ?sF ?sX ?sN ?sT ?sk ?shk ?sd ?su ?_; (case sB | sF | sX | sN | sT => k_asm); (case sk => first | exact rfl | assumption); (case shk => assumption); (case sd | su => omega); k_whole); intro _ _ _ _ _; (try k_sweep); (try k_fold))) | (k_end; wrow_close) | walk1 | (dsimp only; walk1) | ((dsimp only [List.nil_append, List.cons_append]); walk1) | (leave1; (try dsimp only)) | fail "no step")))
      exact hret lt _ _ _ _ (by k_asm) (by k_asm) hlt hi
end
section
theorem rst_D2 : True := by w_top off; trivial
/-- the free clusters that a scan from a finds below p -/
def scan (fat : List Int) (a p : Nat) : List Int := ((List.range p).filter fun q => decide (a ≤ q ∧ 2 ≤ q ∧ fat.getD q 0 = 0)).map Int.ofNat
theorem scan_succ (fat : List Int) (a p : Nat) : scan fat a (p + 1) = scan fat a p ++ (if a ≤ p ∧ 2 ≤ p ∧ fat.getD p 0 = 0 then [(p : Int)] else []) := by
  unfold scan
  rw [List.range_succ, List.filter_append, List.map_append]
  congr 1
  by_cases h : a ≤ p ∧ 2 ≤ p ∧ fat.getD p 0 = 0
  · rw [if_pos h]
    have : decide (a ≤ p ∧ 2 ≤ p ∧ fat.getD p 0 = 0) = true := decide_eq_true h
    simp only [List.filter_cons, this, List.filter_nil, if_true]
    rfl
  · rw [if_neg h]
    have : decide (a ≤ p ∧ 2 ≤ p ∧ fat.getD p 0 = 0) = false := decide_eq_false h
    simp only [List.filter_cons, this, List.filter_nil]
    rfl
theorem scan_yes {fat : List Int} {a p : Nat} (h1 : a ≤ p) (h2 : 2 ≤ p) (h3 : fat.getD p 0 = 0) : scan fat a (p + 1) = scan fat a p ++ [(p : Int)] := by rw [scan_succ, if_pos ⟨h1, h2, h3⟩]
theorem scan_no {fat : List Int} {a p : Nat} (h : 2 ≤ p → fat.getD p 0 ≠ 0) : scan fat a (p + 1) = scan fat a p := by
  rw [scan_succ, if_neg (fun q => h q.2.1 q.2.2), List.append_nil]
theorem scan_start (fat : List Int) (a : Nat) : scan fat a a = [] := by
  unfold scan
  rw [List.filter_eq_nil_iff.mpr, List.map_nil]
  intro q hq
  have := List.mem_range.mp hq
  simp only [decide_eq_true_eq, not_and]
  intro h
  omega
theorem scan_le {fat : List Int} {a p q : Nat} (h : p ≤ q) : (scan fat a p).length ≤ (scan fat a q).length := by
  induction q with
  | zero => have : p = 0 := by omega
            subst this; exact Nat.le_refl _
  | succ q ih =>
    by_cases e : p = q + 1
    · subst e; exact Nat.le_refl _
    · have := ih (by omega)
      rw [scan_succ, List.length_append]
      omega
theorem mem_scan {fat : List Int} {a p : Nat} {z : Int} (h : z ∈ scan fat a p) : ∃ q : Nat, z = (q : Int) ∧ q < p ∧ a ≤ q ∧ 2 ≤ q ∧ fat.getD q 0 = 0 := by
  unfold scan at h
  obtain ⟨q, hq, rfl⟩ := List.mem_map.mp h
  obtain ⟨h1, h2⟩ := List.mem_filter.mp hq
  have h3 := of_decide_eq_true h2
  exact ⟨q, rfl, List.mem_range.mp h1, h3.1, h3.2.1, h3.2.2⟩
theorem scan_nodup (fat : List Int) (a p : Nat) : (scan fat a p).Nodup := by
  unfold scan
  refine List.Pairwise.map _ (fun x y h => ?_) ((List.nodup_range).filter _)
  exact fun e => h (Int.ofNat.inj e)
theorem scan_length_le (fat : List Int) (a p : Nat) : (scan fat a p).length ≤ p := by
  unfold scan
  rw [List.length_map]
  exact Nat.le_trans (List.length_filter_le _ _) (by rw [List.length_range]; exact Nat.le_refl _)
/-- how many clusters so many octets need -/
def numOf (wanted bpc : Int) : Int := -((-wanted).fdiv bpc)
theorem numOf_bounds {wanted bpc : Int} (h0 : 0 ≤ wanted) (h1 : wanted ≤ 4000) (hb : 1 ≤ bpc) : 0 ≤ numOf wanted bpc ∧ numOf wanted bpc ≤ 4000 := by
  unfold numOf
  have e : (-wanted).fdiv bpc = (-wanted) / bpc := Int.fdiv_eq_ediv_of_nonneg _ (by omega)
  rw [e]
  have h2 : (-wanted) / bpc ≤ 0 := Int.ediv_nonpos_of_nonpos_of_neg (by omega) (by omega)
  have h3 : -4000 ≤ (-wanted) / bpc := by
    refine (Int.le_ediv_iff_mul_le (by omega)).mpr ?_
    have : -4000 * bpc ≤ -4000 := by omega
    omega
  omega
end
section
theorem rst_F1 : True := by w_top off; trivial
def fcvA (kind : Int) : Addr := if kind = 12 then 81 else if kind = 16 then 82 else 83
def maxv (kind : Int) : Int := if kind = 12 then 4079 else if kind = 16 then 65519 else 268435439
def eocMin (kind : Int) : Int := if kind = 12 then 4088 else if kind = 16 then 65528 else 268435448
def fcvVal (kind : Int) (x : Str) : Option Int :=
  if x = Str.ofString "FREE_CLUSTER" then some 0 else if x = Str.ofString "MIN_DATA_CLUSTER" then some 2 else if x = Str.ofString "MAX_DATA_CLUSTER" then some (maxv kind)
  else if x = Str.ofString "BAD_CLUSTER" then some (badv kind) else if x = Str.ofString "END_OF_CLUSTER_MIN" then some (eocMin kind) else if x = Str.ofString "END_OF_CLUSTER_MAX" then some (ends kind) else none
section
variable {w : World} {mean : ExcName → Option Value} {mg mb : Str → Option Value} {A : Around} {g h : Heap} {L : Addr} {m : Str → Option Value} {s : Shared} {E : Value → Shared → Prop} {kind : Int} {tk : Tok} {e1 e2 : Expr}
theorem fcv_map (X : (Mine.hd.heap_1 w.params).In h) : h.MapOf (intKind PySem.Challenge.rw_jr0029_01.row.prog w) 80 (fun k => if k = 12 then some (.ref 81) else if k = 16 then some (.ref 82) else if k = 32 then some (.ref 83) else none) := by
  refine ⟨_, _, _, X 80 ⟨.type "dict", none, .dict #[⟨12, .int 12 316, .ref 81⟩, ⟨16, .int 16 335, .ref 82⟩, ⟨32, .int 32 354, .ref 83⟩] 3, #[]⟩ (by k_is), ⟨rfl, rfl, rfl⟩, rfl, fun e he => ?_, fun k => ?_⟩
  · simp only [List.mem_toArray, List.mem_cons, List.not_mem_nil, or_false] at he
    rcases he with rfl | rfl | rfl
    · exact ⟨12, rfl, by show (12 : Int) = hashInt 12; decide⟩
    · exact ⟨16, rfl, by show (16 : Int) = hashInt 16; decide⟩
    · exact ⟨32, rfl, by show (32 : Int) = hashInt 32; decide⟩
  · by_cases h1 : k = 12
    · subst h1; rfl
    by_cases h2 : k = 16
    · subst h2; rfl
    by_cases h3 : k = 32
    · subst h3; rfl
    simp [findBy, intKind, Value.isInt, h1, h2, h3, Ne.symm h1, Ne.symm h2, Ne.symm h3]
theorem fcv_get (F : Fr g L s.heap m) (X₀ : (Mine.hd.heap_1 w.params).In g) {Q : Value → Shared → Prop} (hk : Kind kind) (hret : ∀ tk', Q (.ref (fcvA kind)) { s with toks := tk' })
    (hs : subscripted e2 false (.ref 80) (.int kind tk) = operate [.ref 80, .int kind tk] (getItem (.ref 80) (.int kind tk)) := by with_unfolding_all rfl) :
    wpAny (model PySem.Challenge.rw_jr0029_01.row.prog w) A (subscriptTail e1 e2 (.ref 80) (.int kind tk)) Q E s := by
  have X := X₀.keeps F.keep
  refine tail_any (fcv_map X).typeIs slot_dict_getitem.lookup (wpAny_getItem_of (intKind_is _ _ kind tk) (fcv_map X) (v := .ref (fcvA kind)) ?_ (hret _)) hs
  rcases hk with rfl | rfl | rfl <;> rfl
theorem fcv_str {x : Str} {v : Int} (F : Fr g L s.heap m) (X : (Mine.hd.heap_1 w.params).In g) {Q : Value → Shared → Prop} (hk : Kind kind)
    (hx : (x = Str.ofString "FREE_CLUSTER" ∧ v = 0) ∨ (x = Str.ofString "MIN_DATA_CLUSTER" ∧ v = 2) ∨ (x = Str.ofString "MAX_DATA_CLUSTER" ∧ v = maxv kind) ∨ (x = Str.ofString "BAD_CLUSTER" ∧ v = badv kind) ∨ (x = Str.ofString "END_OF_CLUSTER_MIN" ∧ v = eocMin kind) ∨ (x = Str.ofString "END_OF_CLUSTER_MAX" ∧ v = ends kind))
    (hret : ∀ t tk', Q (.int v t) { s with toks := tk' })
    (hs : subscripted e2 false (.ref (fcvA kind)) (.str x tk) = operate [.ref (fcvA kind), .str x tk] (getItem (.ref (fcvA kind)) (.str x tk)) := by with_unfolding_all rfl) :
    wpAny (model PySem.Challenge.rw_jr0029_01.row.prog w) A (subscriptTail e1 e2 (.ref (fcvA kind)) (.str x tk)) Q E s := by
  rcases hk with rfl | rfl | rfl <;> rcases hx with ⟨rfl, rfl⟩ | ⟨rfl, rfl⟩ | ⟨rfl, rfl⟩ | ⟨rfl, rfl⟩ | ⟨rfl, rfl⟩ | ⟨rfl, rfl⟩
  all_goals (
    k_dflt (refine' topItem_K (K := Mine.hd.heap_1 w.params) ?F ?X ?l ?k ?e ?_ hs)
    case F => exact F
    case X => exact X
    case l => (first | (show List.lookup 81 _ = _; k_is) | (show List.lookup 82 _ = _; k_is) | (show List.lookup 83 _ = _; k_is))
    case k => k_keys
    case e => (first | (show nsIn _ 81 _ = _; k_is) | (show nsIn _ 82 _ = _; k_is) | (show nsIn _ 83 _ = _; k_is))
    exact hret _ _)
end
end
local macro_rules | `(tactic| walk_at "subscriptTail") => `(tactic| ((with_reducible show wpAny _ _ (subscriptTail _ _ (Value.ref 80) (Value.int _ _)) _ _ _); k_dflt (refine' fcv_get ?F ?X ?hk ?_ ?hs; (case F | X => k_asm); (case hk => assumption); (case hs => with_unfolding_all rfl)); intro tk'; (try k_fold)))
local macro_rules | `(tactic| walk_at "subscriptTail") => `(tactic| ((with_reducible show wpAny _ _ (subscriptTail _ _ (Value.ref (fcvA _)) (Value.str _ _)) _ _ _); k_dflt (refine' fcv_str ?F ?X ?hk ?hx ?_ ?hs; (case F | X => k_asm); (case hk => assumption); (case hs => with_unfolding_all rfl); (case hx => first | exact .inl ⟨rfl, rfl⟩ | exact .inr (.inl ⟨rfl, rfl⟩) | exact .inr (.inr (.inl ⟨rfl, rfl⟩)) | exact .inr (.inr (.inr (.inl ⟨rfl, rfl⟩))) | exact .inr (.inr (.inr (.inr (.inl ⟨rfl, rfl⟩)))) | exact .inr (.inr (.inr (.inr (.inr ⟨rfl, rfl⟩)))))); intro ft' tk'; (try k_fold)))
local macro_rules | `(tactic| walk_at "exec Raise some none") => `(tactic| (k_here; k_dflt (refine' Raise_my ?hh ?_; (case hh => exact rfl); k_whole)))
local macro_rules | `(tactic| walk_at "call ref") => `(tactic| ((with_reducible show wpAny _ _ (call (Value.ref 41) [_] _) _ _ _); k_here; k_dflt (first | (refine' exc_make _ _ _ _ _ _ Value.none _ _ _ _ _ _ _ _ _ _ _ _ ?sR ?sF ?sX ?sN ?sT (Or.inl ⟨rfl, rfl⟩) ?_; (case sR => first | omega | ((try dsimp only [arTop, Around.deeper]); omega)); (case sF | sX | sN | sT => k_asm); k_whole) | (refine' exc_make _ _ _ _ _ _ _ _ _ _ _ _ _ _ _ _ _ _ _ ?sR ?sF ?sX ?sN ?sT (Or.inr rfl) ?_; (case sR => first | omega | ((try dsimp only [arTop, Around.deeper]); omega)); (case sF | sX | sN | sT => k_asm); k_whole)); intro e' h' tk' F' N' ne1 ne2 ne3 ex'; (try k_sweep); (try k_fold)))
section
theorem rst_V1 : True := by w_top off; trivial
section
variable {P : Params} {k : Nat → Tok} {v : Nat → Value} {bpc ffc kind fat init ro x : Value} {hh : Int} {kk : Value} {n : Nat}
theorem put_ffc : (putL (Str.ofString "first_free_cluster") hh kk x (volEs P k v bpc ffc kind fat init ro), putN (Str.ofString "first_free_cluster") (volEs P k v bpc ffc kind fat init ro) n) = (volEs P k v bpc x kind fat init ro, n) := by with_unfolding_all rfl
theorem put_fat : (putL (Str.ofString "fat") hh kk x (volEs P k v bpc ffc kind fat init ro), putN (Str.ofString "fat") (volEs P k v bpc ffc kind fat init ro) n) = (volEs P k v bpc ffc kind x init ro, n) := by with_unfolding_all rfl
theorem put_init : (putL (Str.ofString "initialized") hh kk x (volEs P k v bpc ffc kind fat init ro), putN (Str.ofString "initialized") (volEs P k v bpc ffc kind fat init ro) n) = (volEs P k v bpc ffc kind fat x ro, n) := by with_unfolding_all rfl
theorem put_ro : (putL (Str.ofString "is_read_only") hh kk x (volEs P k v bpc ffc kind fat init ro), putN (Str.ofString "is_read_only") (volEs P k v bpc ffc kind fat init ro) n) = (volEs P k v bpc ffc kind fat init x, n) := by with_unfolding_all rfl
theorem put_kind : (putL (Str.ofString "fat_type") hh kk x (volEs P k v bpc ffc kind fat init ro), putN (Str.ofString "fat_type") (volEs P k v bpc ffc kind fat init ro) n) = (volEs P k v bpc ffc x fat init ro, n) := by with_unfolding_all rfl
theorem put_bpc : (putL (Str.ofString "bytes_per_cluster") hh kk x (volEs P k v bpc ffc kind fat init ro), putN (Str.ofString "bytes_per_cluster") (volEs P k v bpc ffc kind fat init ro) n) = (volEs P k v x ffc kind fat init ro, n) := by with_unfolding_all rfl
end
end
local macro_rules | `(tactic| walk_at "setAttr ref") => `(tactic| (k_here; k_dflt (refine' set_dict ?k1 ?k2 ?k3 ?k4 ?k5 ?k6 ?k7 ?k8 ?k9 ?k10 ?k11 ?k12 ?k13 ?_; (case k1 | k2 | k3 => k_asm); (case k4 => k_inst); (case k5 => exact rfl); (case k6 | k7 | k8 | k9 => k_is); (case k10 => k_get); (case k11 => first | exact put_ffc | exact put_fat | exact put_init | exact put_ro | exact put_kind | exact put_bpc); (case k12 => k_upd); (case k13 => exact Nat.le_of_ble_eq_true rfl); k_whole; intro h' F' N'; (try k_sweep))))
section
theorem rst_M1 : True := by w_top off; trivial
theorem fillsI_list : fillsInplaceSlot (.type "list") "add" (Operator.Add == .Add) = pure false := by
  unfold fillsInplaceSlot
  show (typeLookup (.type "list") (dunderI "add") >>= fun fi => pure (fi.isSome && !isSeqSlot fi)) = pure false
  rw [PySem.F.slot_list_iadd.lookup]
  rfl
theorem seqI_list : seqSlot? (.type "list") (dunderI "add") = pure (some (.builtin "list.__iadd__")) := PySem.seqSlot_of PySem.F.slot_list_iadd.lookup (by decide +kernel)
section
variable {prog : Program} {w : World} {A : Around} {E : Value → Shared → Prop} {s : Shared} {h₀ : Heap} {L : Addr} {m : Str → Option Value} {news news' : List (Addr × Obj)}
theorem iadd_my {D b : Addr} {its : Array Value} {n nb : Nat} {x : Value} {Q : Value → Shared → Prop} (F : Fr h₀ L s.heap m) (N : News h₀ L s.heap news) (hb : (b, listOf #[x] nb) ∈ news)
    (U : Upd D (PySem.W.listOf its n) (PySem.W.listOf (its.push x) (n + 1)) news news') (hsz : its.size < sizeLine)
    (h : ∀ h', Fr h₀ L h' m → News h₀ L h' news' → Q (.ref D) { s with heap := h' }) : wpAny (model prog w) A (inplaceOp .Add (.ref D) (.ref b)) Q E s := by
  obtain ⟨pre, post, rfl, rfl, a, b'⟩ := U.split
  have z := N (D, listOf its n) (List.mem_append.mpr (.inr (.head _)))
  have hbo := (N _ hb).1
  have ta : s.TypeIs (.ref D) "list" := ⟨_, z.1, rfl⟩
  have tb : s.TypeIs (.ref b) "list" := ⟨_, hbo, rfl⟩
  unfold inplaceOp
  refine wpAny_holding ?_
  refine wpAny_bind (wpAny_typeOf ta (wpAny_bind (wpAny_of_eq fillsI_list ?_)))
  show wpAny (model prog w) A (if false = true then _ else _) Q E s
  rw [if_neg Bool.false_ne_true]
  refine wpAny_bind (wpAny_binaryOp1_none (nm := "add") ta tb noFill_list_add ?_)
  refine wpAny_bind (wpAny_of_eq seqI_list ?_)
  refine wpAny_bind (wpAny_rule ?_)
  refine call_meets PySem.F.slot_list_iadd ta PySem.F.entry_list_iadd (PySem.F.args_list_iadd_2 _ _) (PySem.AutoSeq1.list___iadd___list_list_0 D its n b #[x] nb ?_ (Nat.le_of_lt hsz) (by simp; omega)) ⟨z.1, hbo, ?_⟩
  · intro hc
    simp only [Bool.and_eq_true] at hc
    have h2 := hc.2
    revert h2
    simp [Builtin.List.listTooLong]
    omega
  · have e0 : Obj.mapSeq (fun y => y ++ #[x]) (listOf its n) = listOf (its.push x) (n + 1) := by
      simp [Obj.mapSeq]
    refine h _ (F.change (Heap.SameBut.update ..) z.2.1 z.2.2) (news_set N a b' (Heap.SameBut.update ..) ?_)
    rw [Heap.get?_update_self _ z.1 (by rw [e0]; rfl), e0]
theorem copy_my {l : Addr} {vs : List Value} {n : Nat} {Q : Value → Shared → Prop} (F : Fr h₀ L s.heap m) (N : News h₀ L s.heap news) (hl : (l, PySem.W.listOf vs.toArray n) ∈ news) (hsz : vs.length ≤ 5000)
    (h : ∀ r h', Fr h₀ L h' m → News h₀ L h' ((r, PySem.W.listOf vs.toArray 0) :: news) → (∀ p ∈ news, p.1 < r) → Q (.ref r) { s with heap := h' }) :
    wpAny (model prog w) A (call (.builtin "list.copy") [.ref l]) Q E s :=
  copy_list F N ⟨_, (N _ hl).1, rfl, n, rfl⟩ (fun h' F' N' => h _ h' F' N' fun p hp => Heap.lt_size (N p hp).1)
end
end
local macro_rules | `(tactic| walk_at "call builtin:list.copy") => `(tactic| (k_here; (with_reducible show wpAny _ _ (call (Value.builtin _) [Value.ref _]) _ _ _); k_dflt (refine' copy_my ?k1 ?k2 ?k3 ?k4 ?_; (case k1 | k2 => k_asm); (case k3 => k_mem); (case k4 => omega); k_whole); intro r' h' F' N' l1; (try k_lt l1); (try k_sweep)))
section
theorem rst_L2 : True := by w_top off; trivial
theorem News_drop1 {h₀ h : Heap} {L : Addr} {p : Addr × Obj} {r : List (Addr × Obj)} (N : News h₀ L h (p :: r)) : News h₀ L h r := fun q hq => N q (.tail _ hq)
section
variable {prog : Program} {w : World} {A : Around} {E : Value → Shared → Prop} {s : Shared} {env : Env} {h₀ : Heap} {xi xv : Str} {p1 p2 p3 : Pos} {x1 : Nat} {body : List Stmt} {Q : Flow → Shared → Prop}
def TurnE2 (h₀ : Heap) (L I1 : Addr) (o1 : Obj) (I2 : Addr) (o2 : Obj) (J : (Str → Option Value) → List (Addr × Obj) → Prop) (s s₂ : Shared) : Prop :=
  ∃ h' tk' m' nx, s₂ = { s with heap := h', toks := tk' } ∧ Fr h₀ L h' m' ∧ News h₀ L h' ((I1, o1) :: (I2, o2) :: nx) ∧ (∀ p ∈ nx, p.1 ≠ I1 ∧ p.1 ≠ I2) ∧ J m' nx
def TurnP2 (h₀ : Heap) (L I1 : Addr) (o1 : Obj) (I2 : Addr) (o2 : Obj) (J : (Str → Option Value) → List (Addr × Obj) → Prop) (s : Shared) (Q : Flow → Shared → Prop) (f : Flow) (s₂ : Shared) : Prop :=
  match f with
  | .ret v => Q (.ret v) s₂
  | .brk => Q .next s₂
  | _ => TurnE2 h₀ L I1 o1 I2 o2 J s s₂
theorem enum_my {l : Addr} {vs : List Value} {nn : Nat} {m₀ : Str → Option Value} {news : List (Addr × Obj)} (J : Nat → (Str → Option Value) → List (Addr × Obj) → Prop)
    (hh : A.handled = none) (hxi : env.kindOf xi = some .local) (hxv : env.kindOf xv = some .local) (hp : (env.scope.kind == .class || (env.scope.kind == .module && env.locals != env.globals)) = false) (hxx : xi ≠ xv)
    (hl : (l, PySem.W.listOf vs.toArray nn) ∈ news) (F : Fr h₀ env.locals s.heap m₀) (N : News h₀ env.locals s.heap news) (hj : J 0 m₀ news)
    (hlJ : ∀ i m₁ news₁, J i m₁ news₁ → (l, PySem.W.listOf vs.toArray nn) ∈ news₁)
    (turn : ∀ i t v m₁ news₁ h tk I1 o1 I2 o2 m₂, vs[i]? = some v → (∀ p ∈ news₁, p.1 ≠ I1) → (∀ p ∈ news₁, p.1 ≠ I2) → @Ne Nat I1 I2 → J i m₁ news₁ → m₂ xi = some (.int i t) → (∀ y, y ≠ xi → y ≠ xv → m₂ y = m₁ y) → Fr h₀ env.locals h m₂ → News h₀ env.locals h ((I1, o1) :: (I2, o2) :: news₁) →
      wpAny (model prog w) A (execs body env) (TurnP2 h₀ env.locals I1 o1 I2 o2 (J (i + 1)) { s with heap := h, toks := tk } Q) E { s with heap := h, toks := tk })
    (done : ∀ m₁ news₁ h tk, J vs.length m₁ news₁ → Fr h₀ env.locals h m₁ → News h₀ env.locals h news₁ → Q .next { s with heap := h, toks := tk }) :
    wpAny (model prog w) A (call (.type "enumerate") [.ref l]) (fun xv' s₁ => wpAny (model prog w) A (pyIter xv') (fun it s₂ => TurnsAt prog w A h₀ env (.Tuple [.Name xi p1, .Name xv p2] x1 p3) body Q E it s₂) E s₁) E s := by
  have hax := N _ hl
  have hll : s.heap.IsList l vs.toArray := ⟨_, hax.1, rfl, nn, rfl⟩
  have hlt : l < s.heap.objs.size := Heap.lt_size hax.1
  have hLs : env.locals < s.heap.objs.size := F.ns.lt
  refine call_enumerate_list hll fun h' hE hI hsz hk => ?_
  refine wpAny_pyIter_enum hE ?_
  generalize hS : s.heap.objs.size = S at hE hI hsz hlt hLs
  have hn1 : h₀.get? (S + 1) = none := ktu_new F (hS ▸ Nat.le_add_right _ _)
  have hn2 : h₀.get? S = none := ktu_new F (hS ▸ Nat.le_refl _)
  have hlen : vs.toArray.size = vs.length := by simp
  have W := KTurns.ofWalksU (elts := [.Name xi p1, .Name xv p2]) (k := x1) (pos := p3) (WalksT.enumerate (prog := prog) (w := w) hh (S + 1) S l (Nat.succ_ne_self _) (ktu_ne 1 hlt) (Nat.ne_of_lt hlt) vs.toArray).toU
  refine ⟨S + 1, _, _, _, _, _, _, m₀, news, J, rfl, W, ?_, ?_, ?_, ⟨⟨.none, hE⟩, hI, hll.at fun o e => hk l o e⟩, F.keeps hk, N.grown hk, hj, ?_, ?_⟩
  · intro hI'
    have hb' : env.locals = S + 1 ∨ env.locals = S ∨ env.locals = l := by simpa using hI'
    rcases hb' with e | e | e
    · exact ktu_ne 1 hLs e
    · exact Nat.ne_of_lt hLs e
    · exact hax.2.1 e.symm
  · intro b hb
    have hb' : b = S + 1 ∨ b = S := by simpa using hb
    rcases hb' with rfl | rfl
    · exact hn1
    · exact hn2
  · intro p hp hI'
    have hb' : p.1 = S + 1 ∨ p.1 = S := by simpa using hI'
    have hlp := Heap.lt_size (N p hp).1
    rw [hS] at hlp
    rcases hb' with e | e
    · exact ktu_ne 1 hlp e
    · exact Nat.ne_of_lt hlp e
  · rintro i u m₁ news₁ h₁ tk₁ own hin ⟨T, vals, rfl, ⟨t, v, hv, rfl⟩, hT⟩ hJ hoff hown hget hall hst₁ F₁ N₁
    obtain ⟨⟨old, he⟩, ⟨oi, hoi, hic, _⟩, _⟩ := hst₁
    obtain ⟨oe, hoe⟩ : ∃ oe : Obj, h₁.get? (S + 1) = some oe := ⟨_, he⟩
    have hm1 : (S + 1, oe) ∈ own := hall _ (by simp) hn1 _ hoe
    have hm2 : (S, oi) ∈ own := hall _ (by simp) hn2 _ hoi
    have hv' : vs[i]? = some v := by simpa using hv
    refine wpAny_assign_Tuple hh hT rfl rfl fun h₃ hx₃ => ?_
    replace hx₃ : Heap.ExtBut h₁.objs.size h₁ h₃ := hx₃
    have old₃ : ∀ b o, h₁.get? b = some o → h₃.get? b = some o := fun b o x => hx₃ b o (Nat.ne_of_lt (Heap.lt_size x)) x
    have F₃ := F₁.keeps old₃
    have N₃ : News h₀ env.locals h₃ (own ++ news₁) := N₁.grown old₃
    show wpAny _ A (do holding [v] (assign (.Name xi p1) env (.int i t)); do holding [] (assign (.Name xv p2) env v); pure ()) _ _ _
    refine wpAny_bind (wpAny_holding (wpAny_assign_Name (wpAny_storeName_local hxi F₃.ns (fun h₄ hn₄ hs₄ => ?_) hp)))
    have F₄ := F₃.set hn₄ hs₄
    have N₄ := N₃.set hs₄
    refine wpAny_bind (wpAny_holding (wpAny_assign_Name (wpAny_storeName_local hxv hn₄ (fun h₅ hn₅ hs₅ => wpAny_pure ?_) hp)))
    have F₅ := F₄.set hn₅ hs₅
    have N₅ := N₄.set hs₅
    have N₆ : News h₀ env.locals h₅ ((S + 1, oe) :: (S, oi) :: news₁) := fun p hp => by
      rcases List.mem_cons.mp hp with rfl | hp
      · exact N₅ _ (List.mem_append_left _ hm1)
      · rcases List.mem_cons.mp hp with rfl | hp
        · exact N₅ _ (List.mem_append_left _ hm2)
        · exact N₅ _ (List.mem_append_right _ hp)
    have o1 : ∀ p ∈ news₁, p.1 ≠ S + 1 := fun p hp e => hoff p hp (by rw [e]; simp)
    have o2 : ∀ p ∈ news₁, p.1 ≠ S := fun p hp e => hoff p hp (by rw [e]; simp)
    refine wpAny_mono (turn i t v m₁ news₁ h₅ _ (S + 1) oe S oi _ hv' o1 o2 (Nat.succ_ne_self _) hJ (by simp [hxx]) (fun y h1 h2 => by simp [h1, h2]) F₅ N₆) (fun f s₃ p => ?_) fun _ _ e => e
    have fin : ∀ s₃, TurnE2 h₀ env.locals (S + 1) oe S oi (J (i + 1)) { s with heap := h₅, toks := tk₁ + 1 + 1 } s₃ →
        LoopStepU h₀ env.locals [S + 1, S] own (J (i + 1)) { s with heap := h₁, toks := tk₁ } .next s₃ := by
      rintro s₃ ⟨h', tk, m', nx, e, F', N', hoff', hJ'⟩
      refine ⟨rfl, h', tk, m', nx, e, F', ?_, ?_, hJ'⟩
      · intro p hp
        rcases List.mem_append.mp hp with hp | hp
        · have hfp : p.1 = S + 1 ∨ p.1 = S ∨ p.1 = l := by simpa using hown p hp
          have h2 := hget p hp
          rcases hfp with h1 | h1 | h1
          · have h3 : p = (S + 1, oe) := by
              rw [h1] at h2
              exact Prod.ext h1 (Option.some.inj (h2.symm.trans hoe))
            rw [h3]; exact N' _ (.head _)
          · have h3 : p = (S, oi) := by
              rw [h1] at h2
              exact Prod.ext h1 (Option.some.inj (h2.symm.trans hoi))
            rw [h3]; exact N' _ (.tail _ (.head _))
          · have hl₁ := hlJ i m₁ news₁ hJ
            have h4 : h₁.get? l = some (PySem.W.listOf vs.toArray nn) := (N₁ _ (List.mem_append_right _ hl₁)).1
            have h3 : p = (l, PySem.W.listOf vs.toArray nn) := by
              rw [h1] at h2
              exact Prod.ext h1 (Option.some.inj (h2.symm.trans h4))
            rw [h3]; exact N' _ (.tail _ (.tail _ (hlJ _ _ _ hJ')))
        · exact N' _ (.tail _ (.tail _ hp))
      · intro p hp hI'
        have hb' : p.1 = S + 1 ∨ p.1 = S := by simpa using hI'
        rcases hb' with e | e
        · exact (hoff' p hp).1 e
        · exact (hoff' p hp).2 e
    cases f with
    | ret v => exact p
    | brk => exact p
    | next => exact fin _ p
    | cont => exact fin _ p
  · rintro h'' tk m' news' F' N' _ hJ
    exact done m' news' h'' tk (by rw [hlen] at hJ; exact hJ) F' N'
end
end
section
theorem rst_X9 : True := by w_top off; trivial
set_option linter.all false in
theorem init_bad (w : World) (mean : ExcName → Option Value) (mg mb : Str → Option Value) (news : List (Addr × Obj)) (V dV : Addr) (nd : Nat) (k : Nat → Tok) (v : Nat → Value) (bpc ffc kind fat ro : Value)
   (dp un : Nat) (gd : Option (List Code)) (env : Env) (outer : List Env) (A₀ : Around) (base h₀ : Heap) (L : Addr) (m : Str → Option Value) (s : Shared) (Q E : Value → Shared → Prop)
    (B : Below A₀ base outer h₀) (F : Fr h₀ L s.heap m) (X : (Mine.hd.heap_1 w.params).In h₀) (N : News h₀ L s.heap news) (T : Top Mine.hd.view_39 (looseW Mine.hd.view_39 [Str.ofString "PyFATException", Str.ofString "errno", Str.ofString "PyFat"]) mean mg mb h₀) (hcs : env.scope.kind = .function) (hfr : env.frame = some L)
    (hV : (V, instObj 316 dV) ∈ news) (hdV : (dV, dictOf (volEs w.params k v bpc ffc kind fat (.bool false) ro) nd) ∈ news)
    (hdp : dp + 6 < recursionLimit) (hun : un + 40 < cLine)
    (hraise : ∀ g e h' tk', Fr h₀ L g m → Flown g (env :: outer) e .none news h' → E (.ref e) { s with heap := h', toks := tk' }) :
      wpAny (model PySem.Challenge.rw_jr0029_01.row.prog w) (arTop dp un gd env outer) (call (.ref 65) [.ref V]) Q E s := by
  refine wpAny_call ?_
  k_dflt (walk_at "my_enter2")
  rename Fr h₀ L _ m => FG
  (repeat' ((fail_if_success (with_reducible show wpAny _ _ (pyIter (Value.ref _)) _ _ _)); (first | (k_unfold; (try dsimp only)) | (k_end; wrow_close) | walk1 | (dsimp only; walk1) | ((dsimp only [List.nil_append, List.cons_append]); walk1) | (leave1; (try dsimp only)) | fail "no step")))
  · exact excAt_of (by k_asm) (by k_asm) (by assumption)
  · (try k_unfold)
    (try dsimp only)
    refine raiseD (by assumption) (by k_asm) (by k_asm) (by assumption) (by assumption) (by assumption) (by assumption) ?_ rfl
    intro h2 fl
    exact hraise _ _ _ _ FG fl
set_option linter.all false in
theorem ro_bad (w : World) (mean : ExcName → Option Value) (mg mb : Str → Option Value) (news : List (Addr × Obj)) (V dV : Addr) (nd : Nat) (k : Nat → Tok) (v : Nat → Value) (bpc ffc kind fat : Value)
   (dp un : Nat) (gd : Option (List Code)) (env : Env) (outer : List Env) (A₀ : Around) (base h₀ : Heap) (L : Addr) (m : Str → Option Value) (s : Shared) (Q E : Value → Shared → Prop)
    (B : Below A₀ base outer h₀) (F : Fr h₀ L s.heap m) (X : (Mine.hd.heap_1 w.params).In h₀) (N : News h₀ L s.heap news) (T : Top Mine.hd.view_39 (looseW Mine.hd.view_39 [Str.ofString "PyFATException", Str.ofString "errno", Str.ofString "PyFat"]) mean mg mb h₀) (hcs : env.scope.kind = .function) (hfr : env.frame = some L)
    (hV : (V, instObj 316 dV) ∈ news) (hdV : (dV, dictOf (volEs w.params k v bpc ffc kind fat (.bool true) (.bool true)) nd) ∈ news)
    (hdp : dp + 6 < recursionLimit) (hun : un + 40 < cLine)
    (hraise : ∀ g e h' tk' t, Fr h₀ L g m → Flown g (env :: outer) e (.int 30 t) news h' → E (.ref e) { s with heap := h', toks := tk' }) :
      wpAny (model PySem.Challenge.rw_jr0029_01.row.prog w) (arTop dp un gd env outer) (call (.ref 72) [.ref V]) Q E s := by
  refine wpAny_call ?_
  k_dflt (walk_at "my_enter2")
  rename Fr h₀ L _ m => FG
  (repeat' ((fail_if_success (with_reducible show wpAny _ _ (pyIter (Value.ref _)) _ _ _)); (first | (k_unfold; (try dsimp only)) | (k_end; wrow_close) | walk1 | (dsimp only; walk1) | ((dsimp only [List.nil_append, List.cons_append]); walk1) | (leave1; (try dsimp only)) | fail "no step")))
  · exact excAt_of (by k_asm) (by k_asm) (by assumption)
  · (try k_unfold)
    (try dsimp only)
    refine raiseD (by assumption) (by k_asm) (by k_asm) (by assumption) (by assumption) (by assumption) (by assumption) ?_ rfl
    intro h2 fl
    exact hraise _ _ _ _ _ FG fl
end
section
theorem rst_Y1 : True := by w_top off; trivial
set_option linter.all false in
theorem alloc_uninit (w : World) (mean : ExcName → Option Value) (mg mb : Str → Option Value) (news : List (Addr × Obj)) (V dV : Addr) (nd : Nat) (k : Nat → Tok) (v : Nat → Value) (bpc ffc kind fat ro wv : Value)
   (dp un : Nat) (gd : Option (List Code)) (env : Env) (outer : List Env) (A₀ : Around) (base h₀ : Heap) (L : Addr) (m : Str → Option Value) (s : Shared) (Q E : Value → Shared → Prop)
    (B : Below A₀ base outer h₀) (F : Fr h₀ L s.heap m) (X : (Mine.hd.heap_1 w.params).In h₀) (N : News h₀ L s.heap news) (T : Top Mine.hd.view_39 (looseW Mine.hd.view_39 [Str.ofString "PyFATException", Str.ofString "errno", Str.ofString "PyFat"]) mean mg mb h₀) (hcs : env.scope.kind = .function) (hfr : env.frame = some L)
    (hV : (V, instObj 316 dV) ∈ news) (hdV : (dV, dictOf (volEs w.params k v bpc ffc kind fat (.bool false) ro) nd) ∈ news)
    (hdp : dp + 8 < recursionLimit) (hun : un + 60 < cLine)
    (hraise : ∀ g e h' tk', Fr h₀ L g m → Flown g (env :: outer) e .none news h' → E (.ref e) { s with heap := h', toks := tk' }) :
      wpAny (model PySem.Challenge.rw_jr0029_01.row.prog w) (arTop dp un gd env outer) (call (.ref 220) [.ref V, wv]) Q E s := by
  refine wpAny_call ?_
  k_dflt (walk_at "my_enter2")
  rename Fr h₀ L _ m => FG
  (repeat' ((fail_if_success (with_reducible show wpAny _ _ (pyIter (Value.ref _)) _ _ _)); (first | (k_unfold; (try dsimp only)) | (((with_reducible show wpAny _ _ (call (Value.ref 72) [_] _) _ _ _); k_here; k_dflt (refine' ro_bad _ _ _ _ _ _ _ _ _ _ _ _ _ _ _ _ _ _ _ _ _ _ _ _ _ _ _ ?sB ?sF ?sX ?sN ?sT ?sK ?sf ?sV ?sdV ?sd ?su ?_; (case sB | sF | sX | sN | sT => k_asm); (case sK | sf => first | exact rfl | assumption); (case sV | sdV => k_mem); (case sd => first | omega | ((try dsimp only [arTop, Around.deeper]); omega)); (case su => first | omega | ((try dsimp only [arTop, Around.deeper]); omega)); k_whole); intro _ _ _ _ _ _ _; (try k_fold))) | (((with_reducible show wpAny _ _ (call (Value.ref 65) [_] _) _ _ _); k_here; k_dflt (refine' init_bad _ _ _ _ _ _ _ _ _ _ _ _ _ _ _ _ _ _ _ _ _ _ _ _ _ _ _ _ ?sB ?sF ?sX ?sN ?sT ?sK ?sf ?sV ?sdV ?sd ?su ?_; (case sB | sF | sX | sN | sT => k_asm); (case sK | sf => first | exact rfl | assumption); (case sV | sdV => k_mem); (case sd => first | omega | ((try dsimp only [arTop, Around.deeper]); omega)); (case su => first | omega | ((try dsimp only [arTop, Around.deeper]); omega)); k_whole); intro _ _ _ _ _ _; (try k_fold))) | (k_end; wrow_close) | walk1 | (dsimp only; walk1) | ((dsimp only [List.nil_append, List.cons_append]); walk1) | (leave1; (try dsimp only)) | fail "no step")))
  rename Fr _ _ _ _ => FG2
  refine leaveD (by assumption) (by assumption) (by assumption) ?_
  intro h2 fl
  exact hraise _ _ _ _ FG fl
set_option linter.all false in
theorem alloc_ro (w : World) (mean : ExcName → Option Value) (mg mb : Str → Option Value) (news : List (Addr × Obj)) (V dV : Addr) (nd : Nat) (k : Nat → Tok) (v : Nat → Value) (bpc ffc kind fat ro wv : Value)
   (dp un : Nat) (gd : Option (List Code)) (env : Env) (outer : List Env) (A₀ : Around) (base h₀ : Heap) (L : Addr) (m : Str → Option Value) (s : Shared) (Q E : Value → Shared → Prop)
    (B : Below A₀ base outer h₀) (F : Fr h₀ L s.heap m) (X : (Mine.hd.heap_1 w.params).In h₀) (N : News h₀ L s.heap news) (T : Top Mine.hd.view_39 (looseW Mine.hd.view_39 [Str.ofString "PyFATException", Str.ofString "errno", Str.ofString "PyFat"]) mean mg mb h₀) (hcs : env.scope.kind = .function) (hfr : env.frame = some L)
    (hV : (V, instObj 316 dV) ∈ news) (hdV : (dV, dictOf (volEs w.params k v bpc ffc kind fat (.bool true) (.bool true)) nd) ∈ news)
    (hdp : dp + 8 < recursionLimit) (hun : un + 60 < cLine)
    (hraise : ∀ g e h' tk' t, Fr h₀ L g m → Flown g (env :: outer) e (.int 30 t) news h' → E (.ref e) { s with heap := h', toks := tk' }) :
      wpAny (model PySem.Challenge.rw_jr0029_01.row.prog w) (arTop dp un gd env outer) (call (.ref 220) [.ref V, wv]) Q E s := by
  refine wpAny_call ?_
  k_dflt (walk_at "my_enter2")
  rename Fr h₀ L _ m => FG
  (repeat' ((fail_if_success (with_reducible show wpAny _ _ (pyIter (Value.ref _)) _ _ _)); (first | (k_unfold; (try dsimp only)) | (((with_reducible show wpAny _ _ (call (Value.ref 72) [_] _) _ _ _); k_here; k_dflt (refine' ro_bad _ _ _ _ _ _ _ _ _ _ _ _ _ _ _ _ _ _ _ _ _ _ _ _ _ _ _ ?sB ?sF ?sX ?sN ?sT ?sK ?sf ?sV ?sdV ?sd ?su ?_; (case sB | sF | sX | sN | sT => k_asm); (case sK | sf => first | exact rfl | assumption); (case sV | sdV => k_mem); (case sd => first | omega | ((try dsimp only [arTop, Around.deeper]); omega)); (case su => first | omega | ((try dsimp only [arTop, Around.deeper]); omega)); k_whole); intro _ _ _ _ _ _ _; (try k_fold))) | (((with_reducible show wpAny _ _ (call (Value.ref 65) [_] _) _ _ _); k_here; k_dflt (refine' init_bad _ _ _ _ _ _ _ _ _ _ _ _ _ _ _ _ _ _ _ _ _ _ _ _ _ _ _ _ ?sB ?sF ?sX ?sN ?sT ?sK ?sf ?sV ?sdV ?sd ?su ?_; (case sB | sF | sX | sN | sT => k_asm); (case sK | sf => first | exact rfl | assumption); (case sV | sdV => k_mem); (case sd => first | omega | ((try dsimp only [arTop, Around.deeper]); omega)); (case su => first | omega | ((try dsimp only [arTop, Around.deeper]); omega)); k_whole); intro _ _ _ _ _ _; (try k_fold))) | (k_end; wrow_close) | walk1 | (dsimp only; walk1) | ((dsimp only [List.nil_append, List.cons_append]); walk1) | (leave1; (try dsimp only)) | fail "no step")))
  rename Fr _ _ _ _ => FG2
  refine leaveD (by assumption) (by assumption) (by assumption) ?_
  intro h2 fl
  exact hraise _ _ _ _ _ FG fl
set_option linter.all false in
theorem free_uninit (w : World) (mean : ExcName → Option Value) (mg mb : Str → Option Value) (news : List (Addr × Obj)) (V dV : Addr) (nd : Nat) (k : Nat → Tok) (v : Nat → Value) (bpc ffc kind fat ro wv : Value)
   (dp un : Nat) (gd : Option (List Code)) (env : Env) (outer : List Env) (A₀ : Around) (base h₀ : Heap) (L : Addr) (m : Str → Option Value) (s : Shared) (Q E : Value → Shared → Prop)
    (B : Below A₀ base outer h₀) (F : Fr h₀ L s.heap m) (X : (Mine.hd.heap_1 w.params).In h₀) (N : News h₀ L s.heap news) (T : Top Mine.hd.view_39 (looseW Mine.hd.view_39 [Str.ofString "PyFATException", Str.ofString "errno", Str.ofString "PyFat"]) mean mg mb h₀) (hcs : env.scope.kind = .function) (hfr : env.frame = some L)
    (hV : (V, instObj 316 dV) ∈ news) (hdV : (dV, dictOf (volEs w.params k v bpc ffc kind fat (.bool false) ro) nd) ∈ news)
    (hdp : dp + 8 < recursionLimit) (hun : un + 60 < cLine)
    (hraise : ∀ g e h' tk', Fr h₀ L g m → Flown g (env :: outer) e .none news h' → E (.ref e) { s with heap := h', toks := tk' }) :
      wpAny (model PySem.Challenge.rw_jr0029_01.row.prog w) (arTop dp un gd env outer) (call (.ref 189) [.ref V, wv]) Q E s := by
  refine wpAny_call ?_
  k_dflt (walk_at "my_enter2")
  rename Fr h₀ L _ m => FG
  (repeat' ((fail_if_success (with_reducible show wpAny _ _ (pyIter (Value.ref _)) _ _ _)); (first | (k_unfold; (try dsimp only)) | (((with_reducible show wpAny _ _ (call (Value.ref 72) [_] _) _ _ _); k_here; k_dflt (refine' ro_bad _ _ _ _ _ _ _ _ _ _ _ _ _ _ _ _ _ _ _ _ _ _ _ _ _ _ _ ?sB ?sF ?sX ?sN ?sT ?sK ?sf ?sV ?sdV ?sd ?su ?_; (case sB | sF | sX | sN | sT => k_asm); (case sK | sf => first | exact rfl | assumption); (case sV | sdV => k_mem); (case sd => first | omega | ((try dsimp only [arTop, Around.deeper]); omega)); (case su => first | omega | ((try dsimp only [arTop, Around.deeper]); omega)); k_whole); intro _ _ _ _ _ _ _; (try k_fold))) | (((with_reducible show wpAny _ _ (call (Value.ref 65) [_] _) _ _ _); k_here; k_dflt (refine' init_bad _ _ _ _ _ _ _ _ _ _ _ _ _ _ _ _ _ _ _ _ _ _ _ _ _ _ _ _ ?sB ?sF ?sX ?sN ?sT ?sK ?sf ?sV ?sdV ?sd ?su ?_; (case sB | sF | sX | sN | sT => k_asm); (case sK | sf => first | exact rfl | assumption); (case sV | sdV => k_mem); (case sd => first | omega | ((try dsimp only [arTop, Around.deeper]); omega)); (case su => first | omega | ((try dsimp only [arTop, Around.deeper]); omega)); k_whole); intro _ _ _ _ _ _; (try k_fold))) | (k_end; wrow_close) | walk1 | (dsimp only; walk1) | ((dsimp only [List.nil_append, List.cons_append]); walk1) | (leave1; (try dsimp only)) | fail "no step")))
  rename Fr _ _ _ _ => FG2
  refine leaveD (by assumption) (by assumption) (by assumption) ?_
  intro h2 fl
  exact hraise _ _ _ _ FG fl
set_option linter.all false in
theorem free_ro (w : World) (mean : ExcName → Option Value) (mg mb : Str → Option Value) (news : List (Addr × Obj)) (V dV : Addr) (nd : Nat) (k : Nat → Tok) (v : Nat → Value) (bpc ffc kind fat ro wv : Value)
   (dp un : Nat) (gd : Option (List Code)) (env : Env) (outer : List Env) (A₀ : Around) (base h₀ : Heap) (L : Addr) (m : Str → Option Value) (s : Shared) (Q E : Value → Shared → Prop)
    (B : Below A₀ base outer h₀) (F : Fr h₀ L s.heap m) (X : (Mine.hd.heap_1 w.params).In h₀) (N : News h₀ L s.heap news) (T : Top Mine.hd.view_39 (looseW Mine.hd.view_39 [Str.ofString "PyFATException", Str.ofString "errno", Str.ofString "PyFat"]) mean mg mb h₀) (hcs : env.scope.kind = .function) (hfr : env.frame = some L)
    (hV : (V, instObj 316 dV) ∈ news) (hdV : (dV, dictOf (volEs w.params k v bpc ffc kind fat (.bool true) (.bool true)) nd) ∈ news)
    (hdp : dp + 8 < recursionLimit) (hun : un + 60 < cLine)
    (hraise : ∀ g e h' tk' t, Fr h₀ L g m → Flown g (env :: outer) e (.int 30 t) news h' → E (.ref e) { s with heap := h', toks := tk' }) :
      wpAny (model PySem.Challenge.rw_jr0029_01.row.prog w) (arTop dp un gd env outer) (call (.ref 189) [.ref V, wv]) Q E s := by
  refine wpAny_call ?_
  k_dflt (walk_at "my_enter2")
  rename Fr h₀ L _ m => FG
  (repeat' ((fail_if_success (with_reducible show wpAny _ _ (pyIter (Value.ref _)) _ _ _)); (first | (k_unfold; (try dsimp only)) | (((with_reducible show wpAny _ _ (call (Value.ref 72) [_] _) _ _ _); k_here; k_dflt (refine' ro_bad _ _ _ _ _ _ _ _ _ _ _ _ _ _ _ _ _ _ _ _ _ _ _ _ _ _ _ ?sB ?sF ?sX ?sN ?sT ?sK ?sf ?sV ?sdV ?sd ?su ?_; (case sB | sF | sX | sN | sT => k_asm); (case sK | sf => first | exact rfl | assumption); (case sV | sdV => k_mem); (case sd => first | omega | ((try dsimp only [arTop, Around.deeper]); omega)); (case su => first | omega | ((try dsimp only [arTop, Around.deeper]); omega)); k_whole); intro _ _ _ _ _ _ _; (try k_fold))) | (((with_reducible show wpAny _ _ (call (Value.ref 65) [_] _) _ _ _); k_here; k_dflt (refine' init_bad _ _ _ _ _ _ _ _ _ _ _ _ _ _ _ _ _ _ _ _ _ _ _ _ _ _ _ _ ?sB ?sF ?sX ?sN ?sT ?sK ?sf ?sV ?sdV ?sd ?su ?_; (case sB | sF | sX | sN | sT => k_asm); (case sK | sf => first | exact rfl | assumption); (case sV | sdV => k_mem); (case sd => first | omega | ((try dsimp only [arTop, Around.deeper]); omega)); (case su => first | omega | ((try dsimp only [arTop, Around.deeper]); omega)); k_whole); intro _ _ _ _ _ _; (try k_fold))) | (k_end; wrow_close) | walk1 | (dsimp only; walk1) | ((dsimp only [List.nil_append, List.cons_append]); walk1) | (leave1; (try dsimp only)) | fail "no step")))
  rename Fr _ _ _ _ => FG2
  refine leaveD (by assumption) (by assumption) (by assumption) ?_
  intro h2 fl
  exact hraise _ _ _ _ _ FG fl
end
section
theorem rst_Y4 : True := by w_top off; trivial
set_option linter.all false in
theorem refused_claim (w : World) (mean : ExcName → Option Value) (mg mb : Str → Option Value) (news news' : List (Addr × Obj)) (V dV : Addr) (nd : Nat) (k : Nat → Tok) (v : Nat → Value) (bpc ffc kind fat ini ro : Value) (wv cv : Value) (ev : Tok → Value)
   (dp un : Nat) (gd : Option (List Code)) (env : Env) (A₀ : Around) (base h₀ : Heap) (L : Addr) (m : Str → Option Value) (s : Shared) (Q E : Value → Shared → Prop)
    (B : Below A₀ base [] h₀) (F : Fr h₀ L s.heap m) (X : (Mine.hd.heap_1 w.params).In h₀) (N : News h₀ L s.heap news) (T : Top Mine.hd.view_39 (looseW Mine.hd.view_39 [Str.ofString "PyFATException", Str.ofString "errno", Str.ofString "PyFat"]) mean mg mb h₀) (hcs : env.scope.kind = .function) (hfr : env.frame = some L)
    (hV : (V, instObj 316 dV) ∈ news) (hdV : (dV, dictOf (volEs w.params k v bpc ffc kind fat ini ro) nd) ∈ news) (hdp : dp + 14 < recursionLimit) (hun : un + 100 < cLine)
    (hcall : ∀ (env1 : Env) (h1 : Heap) (L1 : Addr) (m1 : Str → Option Value) (s1 : Shared) (tw : Value) (Q1 E1 : Value → Shared → Prop), Below (arTop dp un gd env []) base [env] h1 → Fr h1 L1 s1.heap m1 → (Mine.hd.heap_1 w.params).In h1 → News h1 L1 s1.heap news →
      Top Mine.hd.view_39 (looseW Mine.hd.view_39 [Str.ofString "PyFATException", Str.ofString "errno", Str.ofString "PyFat"]) mean mg mb h1 → env1.scope.kind = .function → env1.frame = some L1 → s1.gens = s.gens →
      (∀ g e h' tk' gens' t, AllBare gens' → Fr h1 L1 g m1 → Flown g [env1, env] e (ev t) news' h' → E1 (.ref e) { s1 with heap := h', toks := tk', gens := gens' }) →
      wpAny (model PySem.Challenge.rw_jr0029_01.row.prog w) (arTop (dp + 1) (un + 3) gd env1 [env]) (call (.ref 220) [.ref V, wv]) Q1 E1 s1)
    (hho : ∀ t, handedOut (ev t) = pure (ev t)) (heq : ∀ t A (Q : Value → Shared → Prop) E s, Q (.bool true) s → wpAny (model PySem.Challenge.rw_jr0029_01.row.prog w) A (compareOp .Eq (ev t) cv) Q E s)
    (hret : ∀ h' tk' gens', AllBare gens' → Fr h₀ L h' m → News h₀ L h' news' → Q (.bool true) { s with heap := h', toks := tk', gens := gens' }) :
      wpAny (model PySem.Challenge.rw_jr0029_01.row.prog w) (arTop dp un gd env []) (call (.ref 362) [.ref V, wv, cv]) Q E s := by
  refine wpAny_call ?_
  k_dflt (walk_at "my_enter2")
  rename Fr h₀ L _ m => FG
  rename Below (arTop dp un gd env []) base _ _ => BG
  (repeat' ((fail_if_success (with_reducible show wpAny _ _ (call (Value.ref 220) _ _) _ _ _)); (fail_if_success (with_reducible show wpAny _ _ (noteFrame _ _) _ _ _)); (first | (k_unfold; (try dsimp only)) | (((with_reducible show wpAny _ _ (getAttr (Value.ref _) (Str.ofString "errno") _) _ _ _); k_here; refine load_exc (by with_reducible assumption) (by with_reducible assumption) (by with_reducible assumption) ?_)) | (k_end; wrow_close) | walk1 | (dsimp only; walk1) | ((dsimp only [List.nil_append, List.cons_append]); walk1) | (leave1; (try dsimp only)) | fail "no step")))
  rename Fr _ _ _ _ => F1
  rename News _ _ _ _ => N1
  rename Top _ _ _ _ _ _ => T1
  rename Frag.In _ _ => X1
  refine hcall _ _ _ _ _ wv _ _ BG F1 X1 N1 T1 rfl rfl rfl ?_
  intro g e h' tk' gens' t hb FG1 fl
  obtain ⟨oc, hoc, hON⟩ := ONs.of FG.ns
  have hL0 : h₀.get? L = none := kts_self F
  have hLs : h₀.objs.size ≤ L := F.above
  have hst : h₀.StaysIn (hideAll _ [L]) := fun b o q => hideAll_get _ (FG.keep b o q) (fun hm => by
    rw [List.mem_singleton.mp hm, hL0] at q; cases q)
  refine caughtD (s := { s with heap := h', toks := tk', gens := gens' }) BG FG1 fl hfr hoc X T hst ⟨Str.ofString "volume", _, rfl, rfl⟩ ?_ rfl rfl rfl
  have hne9 : ∀ p ∈ news', p.1 ≠ L := by
    intro p hp q
    obtain ⟨BB, DD, hD⟩ := fl
    have := (hD.led p hp).2
    rw [show p.1 = L from q, FG1.keep _ _ hoc] at this; exact nomatch this
  intro h2 tk2 sl F2 N2 I2
  clear F1 N1 FG1 fl
  have X9 : (Mine.hd.heap_1 w.params).In h2 := (X.keeps hst).keeps F2.keep
  have X8 := X.keeps hst
  have T8 := T.keeps hst
  have hho9 := hho t
  (repeat' ((fail_if_success (with_reducible show wpAny _ _ (call (Value.ref 220) _ _) _ _ _)); (fail_if_success (with_reducible show wpAny _ _ (noteFrame _ _) _ _ _)); (first | (k_unfold; (try dsimp only)) | (((with_reducible show wpAny _ _ (getAttr (Value.ref _) (Str.ofString "errno") _) _ _ _); k_here; refine load_exc (by with_reducible assumption) (by with_reducible assumption) (by with_reducible assumption) ?_)) | (k_end; wrow_close) | walk1 | (dsimp only; walk1) | ((dsimp only [List.nil_append, List.cons_append]); walk1) | (leave1; (try dsimp only)) | fail "no step")))
  refine heq _ _ _ _ _ ?_
  (repeat' ((fail_if_success (with_reducible show wpAny _ _ (call (Value.ref 220) _ _) _ _ _)); (fail_if_success (with_reducible show wpAny _ _ (noteFrame _ _) _ _ _)); (first | (k_unfold; (try dsimp only)) | (((with_reducible show wpAny _ _ (getAttr (Value.ref _) (Str.ofString "errno") _) _ _ _); k_here; refine load_exc (by with_reducible assumption) (by with_reducible assumption) (by with_reducible assumption) ?_)) | (k_end; wrow_close) | walk1 | (dsimp only; walk1) | ((dsimp only [List.nil_append, List.cons_append]); walk1) | (leave1; (try dsimp only)) | fail "no step")))
  rename Fr _ _ _ _ => F9
  rename News _ _ _ _ => N9
  obtain ⟨F10, N10⟩ := back hst hLs F9 N9 hON.slots hne9
  exact hret _ _ _ hb F10 N10
end
section
theorem rst_Y5 : True := by w_top off; trivial
set_option linter.all false in
theorem shut_claim (w : World) (mean : ExcName → Option Value) (mg mb : Str → Option Value) (news : List (Addr × Obj)) (news' : Int → Tok → List (Addr × Obj)) (V dV : Addr) (nd : Nat) (k : Nat → Tok) (v : Nat → Value) (bpc ffc kind fat ini ro : Value) (wv cv : Value) (ev : Tok → Value)
   (dp un : Nat) (gd : Option (List Code)) (env : Env) (A₀ : Around) (base h₀ : Heap) (L : Addr) (m : Str → Option Value) (s : Shared) (Q E : Value → Shared → Prop)
    (B : Below A₀ base [] h₀) (F : Fr h₀ L s.heap m) (X : (Mine.hd.heap_1 w.params).In h₀) (N : News h₀ L s.heap news) (T : Top Mine.hd.view_39 (looseW Mine.hd.view_39 [Str.ofString "PyFATException", Str.ofString "errno", Str.ofString "PyFat"]) mean mg mb h₀) (hcs : env.scope.kind = .function) (hfr : env.frame = some L)
    (hV : (V, instObj 316 dV) ∈ news) (hdV : (dV, dictOf (volEs w.params k v bpc ffc kind fat ini ro) nd) ∈ news) (hdp : dp + 14 < recursionLimit) (hun : un + 100 < cLine)
    (hcall : ∀ (env1 : Env) (h1 : Heap) (L1 : Addr) (m1 : Str → Option Value) (s1 : Shared) (tw : Value) (Q1 E1 : Value → Shared → Prop), Below (arTop dp un gd env []) base [env] h1 → Fr h1 L1 s1.heap m1 → (Mine.hd.heap_1 w.params).In h1 → News h1 L1 s1.heap news →
      Top Mine.hd.view_39 (looseW Mine.hd.view_39 [Str.ofString "PyFATException", Str.ofString "errno", Str.ofString "PyFat"]) mean mg mb h1 → env1.scope.kind = .function → env1.frame = some L1 → s1.gens = s.gens →
      (∀ g e h' tk' gens' t f u, AllBare gens' → Fr h1 L1 g m1 → Flown g [env1, env] e (ev t) (news' f u) h' → E1 (.ref e) { s1 with heap := h', toks := tk', gens := gens' }) →
      wpAny (model PySem.Challenge.rw_jr0029_01.row.prog w) (arTop (dp + 1) (un + 3) gd env1 [env]) (call (.ref 189) [.ref V, wv]) Q1 E1 s1)
    (hho : ∀ t, handedOut (ev t) = pure (ev t)) (heq : ∀ t A (Q : Value → Shared → Prop) E s, Q (.bool true) s → wpAny (model PySem.Challenge.rw_jr0029_01.row.prog w) A (compareOp .Eq (ev t) cv) Q E s)
    (hret : ∀ h' tk' gens' f u, AllBare gens' → Fr h₀ L h' m → News h₀ L h' (news' f u) → Q (.bool true) { s with heap := h', toks := tk', gens := gens' }) :
      wpAny (model PySem.Challenge.rw_jr0029_01.row.prog w) (arTop dp un gd env []) (call (.ref 369) [.ref V, wv, cv]) Q E s := by
  refine wpAny_call ?_
  k_dflt (walk_at "my_enter2")
  rename Fr h₀ L _ m => FG
  rename Below (arTop dp un gd env []) base _ _ => BG
  (repeat' ((fail_if_success (with_reducible show wpAny _ _ (call (Value.ref 189) _ _) _ _ _)); (fail_if_success (with_reducible show wpAny _ _ (noteFrame _ _) _ _ _)); (first | (k_unfold; (try dsimp only)) | (((with_reducible show wpAny _ _ (getAttr (Value.ref _) (Str.ofString "errno") _) _ _ _); k_here; refine load_exc (by with_reducible assumption) (by with_reducible assumption) (by with_reducible assumption) ?_)) | (k_end; wrow_close) | walk1 | (dsimp only; walk1) | ((dsimp only [List.nil_append, List.cons_append]); walk1) | (leave1; (try dsimp only)) | fail "no step")))
  rename Fr _ _ _ _ => F1
  rename News _ _ _ _ => N1
  rename Top _ _ _ _ _ _ => T1
  rename Frag.In _ _ => X1
  refine hcall _ _ _ _ _ wv _ _ BG F1 X1 N1 T1 rfl rfl rfl ?_
  intro g e h' tk' gens' t f u hb FG1 fl
  obtain ⟨oc, hoc, hON⟩ := ONs.of FG.ns
  have hL0 : h₀.get? L = none := kts_self F
  have hLs : h₀.objs.size ≤ L := F.above
  have hst : h₀.StaysIn (hideAll _ [L]) := fun b o q => hideAll_get _ (FG.keep b o q) (fun hm => by
    rw [List.mem_singleton.mp hm, hL0] at q; cases q)
  refine caughtD (s := { s with heap := h', toks := tk', gens := gens' }) BG FG1 fl hfr hoc X T hst ⟨Str.ofString "volume", _, rfl, rfl⟩ ?_ rfl rfl rfl
  have hne9 : ∀ p ∈ news' f u, p.1 ≠ L := by
    intro p hp q
    obtain ⟨BB, DD, hD⟩ := fl
    have := (hD.led p hp).2
    rw [show p.1 = L from q, FG1.keep _ _ hoc] at this; exact nomatch this
  intro h2 tk2 sl F2 N2 I2
  clear F1 N1 FG1 fl
  have X9 : (Mine.hd.heap_1 w.params).In h2 := (X.keeps hst).keeps F2.keep
  have X8 := X.keeps hst
  have T8 := T.keeps hst
  have hho9 := hho t
  (repeat' ((fail_if_success (with_reducible show wpAny _ _ (call (Value.ref 189) _ _) _ _ _)); (fail_if_success (with_reducible show wpAny _ _ (noteFrame _ _) _ _ _)); (first | (k_unfold; (try dsimp only)) | (((with_reducible show wpAny _ _ (getAttr (Value.ref _) (Str.ofString "errno") _) _ _ _); k_here; refine load_exc (by with_reducible assumption) (by with_reducible assumption) (by with_reducible assumption) ?_)) | (k_end; wrow_close) | walk1 | (dsimp only; walk1) | ((dsimp only [List.nil_append, List.cons_append]); walk1) | (leave1; (try dsimp only)) | fail "no step")))
  refine heq _ _ _ _ _ ?_
  (repeat' ((fail_if_success (with_reducible show wpAny _ _ (call (Value.ref 189) _ _) _ _ _)); (fail_if_success (with_reducible show wpAny _ _ (noteFrame _ _) _ _ _)); (first | (k_unfold; (try dsimp only)) | (((with_reducible show wpAny _ _ (getAttr (Value.ref _) (Str.ofString "errno") _) _ _ _); k_here; refine load_exc (by with_reducible assumption) (by with_reducible assumption) (by with_reducible assumption) ?_)) | (k_end; wrow_close) | walk1 | (dsimp only; walk1) | ((dsimp only [List.nil_append, List.cons_append]); walk1) | (leave1; (try dsimp only)) | fail "no step")))
  rename Fr _ _ _ _ => F9
  rename News _ _ _ _ => N9
  obtain ⟨F10, N10⟩ := back hst hLs F9 N9 hON.slots hne9
  exact hret _ _ _ f u hb F10 N10
end
section
theorem rst_G3 : True := by w_top off; trivial
section
variable {prog : Program} {w : World} {A : Around} {s : Shared} {h₀ : Heap} {L : Addr} {m : Str → Option Value} {news : List (Addr × Obj)} {K : Frag}
theorem gen_make {R : Result → Shared → Prop} {name qual : Str} {params : Arguments} {body : List Stmt} {scope : Scope} {dV kV doc pm cdv ct oc : Value} {an od : Option Addr} {osl : Array (Option Value)} {f : Addr} {args : Args} {binds : List (Str × Value)}
    (F : Fr h₀ L s.heap m) (X₀ : K.In h₀) (N : News h₀ L s.heap news) (hlim : h₀.NoLimit)
    (ho : K.lookup f = some ⟨oc, od, .func (fnOf name qual params body scope dV kV doc pm an cdv ct), osl⟩) (hcd : codeIn K cdv qual = true) (hroom : A.depth < recursionLimit)
    (hbind : BindsTo s (fnOf name qual params body scope dV kV doc pm an cdv ct) args binds) (hloc : ∀ y ∈ binds, scope.names.lookup y.1 = some .local)
    (h : ∀ Lg Ga oL oG h₁ tk, Fr h₀ L h₁ m → News h₀ L h₁ ((Ga, oG) :: (Lg, oL) :: news) → ONs oL (fun y => binds.reverse.lookup y) → GenO oG s.gens.size → @LT.lt Nat _ Lg Ga → @LT.lt Nat _ L Lg → (∀ p ∈ news, p.1 < Lg) → h₀.objs.size ≤ Lg →
      R (.ok (.ret (.ref Ga))) { s with heap := h₁, toks := tk, gens := s.gens.push (.fresh (.func body (envOf qual scope Lg f cdv))) })
    (hco : scope.isCoroutine = false) (hgen : scope.isGenerator = true) (hk : scope.kind = .function)
    (hcell : ∀ x ∈ scope.names, x.2 ≠ .cell) : codeAny (model prog w) A (.call (.ref f) args) R s := by
  refine codeAny_call_generator (fd := fnOf name qual params body scope dV kV doc pm an cdv ct) (body := body) hroom ((X₀.keeps F.keep) _ _ ho) rfl hco hgen rfl (codeRec_of (X₀.keeps F.keep) hcd) (hbind _ _ _ _ ?_)
  refine wpAny_newFunctionEnv hcell hloc (fun h₁ hns hsb => ⟨(hlim.keeps F.keep).fresh _ hsb, ?_⟩) hk
  have hk₁ : ∀ b o, s.heap.get? b = some o → h₁.get? b = some o := fun b o e => hsb.extBut b o (Nat.ne_of_lt (Heap.lt_size e)) (Heap.get?_push_of_some _ e)
  obtain ⟨oL, hoL, hON⟩ := ONs.of hns
  have hsz : s.heap.objs.size < h₁.objs.size := Heap.lt_size hoL
  have F₁ := (F.keeps hk₁).push { cls := .type "generator", data := .fields #[.int s.gens.size 0, .str name (s.toks + binds.length), .str qual (s.toks + binds.length + 1)] }
  refine h s.heap.objs.size h₁.objs.size oL { cls := .type "generator", data := .fields #[.int s.gens.size 0, .str name (s.toks + binds.length), .str qual (s.toks + binds.length + 1)] } _ _ F₁ ?_ hON ⟨rfl, _, _, rfl, rfl⟩ hsz F.ns.lt (fun p hp => Heap.lt_size (N p hp).1) ?_
  · intro p hp
    rcases List.mem_cons.mp hp with rfl | hp
    · refine ⟨Heap.get?_push_size _ rfl, Nat.ne_of_gt (Nat.lt_trans F.ns.lt hsz), ?_⟩
      cases q : h₀.get? h₁.objs.size with
      | none => rfl
      | some o => exact absurd (Heap.lt_size (hk₁ _ _ (F.keep _ _ q))) (Nat.lt_irrefl _)
    · rcases List.mem_cons.mp hp with rfl | hp
      · exact ⟨Heap.get?_push_of_some _ hoL, Nat.ne_of_gt F.ns.lt, next_is_new F⟩
      · exact ⟨Heap.get?_push_of_some _ (hk₁ _ _ (N p hp).1), (N p hp).2⟩
  · exact Nat.le_of_lt (Nat.lt_of_le_of_lt F.above F.ns.lt)
end
/-- all that a heap holds beyond some base and one frame -/
theorem all_news {h₀ h : Heap} {Lg : Addr} : ∃ rest, News h₀ Lg h rest ∧ ∀ b o, h.get? b = some o → b ≠ Lg → h₀.get? b = none → (b, o) ∈ rest := by
  refine ⟨((List.range h.objs.size).filterMap fun b => match h.get? b with | some o => if b ≠ Lg ∧ h₀.get? b = none then some (b, o) else none | none => none), fun p hp => ?_, fun b o e n1 n2 => ?_⟩
  · obtain ⟨b, _, hb⟩ := List.mem_filterMap.mp hp
    cases e : h.get? b with
    | none => rw [e] at hb; cases hb
    | some o =>
      rw [e] at hb
      dsimp only at hb
      by_cases hc : b ≠ Lg ∧ h₀.get? b = none
      · rw [if_pos hc] at hb
        cases hb
        exact ⟨e, hc.1, hc.2⟩
      · rw [if_neg hc] at hb
        cases hb
  · refine List.mem_filterMap.mpr ⟨b, List.mem_range.mpr (Heap.lt_size e), ?_⟩
    rw [e]
    dsimp only
    rw [if_pos ⟨n1, n2⟩]
theorem kept_of {h₀ h h' : Heap} {Lg : Addr} {m' : Str → Option Value} {rest pre : List (Addr × Obj)} (F : Fr h₀ Lg h m') (hr : ∀ b o, h.get? b = some o → b ≠ Lg → h₀.get? b = none → (b, o) ∈ rest) {mm : Str → Option Value} (F' : Fr h₀ Lg h' mm) (N' : News h₀ Lg h' (pre ++ rest)) : Kept Lg h h' := fun b o n e => by
  cases q : h₀.get? b with
  | some o₀ =>
    have e1 := F.keep b o₀ q
    rw [e] at e1
    cases e1
    exact F'.keep b o q
  | none => exact (N' _ (List.mem_append_right _ (hr b o e n q))).1
end
section
theorem rst_G4 : True := by w_top off; trivial
section
variable {prog : Program} {w : World} {A : Around} {s : Shared} {h₀ : Heap} {L : Addr} {m : Str → Option Value} {news : List (Addr × Obj)} {K : Frag}
/-- a call's entry without the stack's facts: the caller's names go into the ledger -/
theorem code_noB {R : Result → Shared → Prop} {name qual : Str} {params : Arguments} {body : List Stmt} {scope : Scope} {dV kV doc pm cdv ct oc : Value} {an od : Option Addr} {osl : Array (Option Value)} {f : Addr} {args : Args} {binds : List (Str × Value)}
    (F : Fr h₀ L s.heap m) (X₀ : K.In h₀) (N : News h₀ L s.heap news) (hlim : h₀.NoLimit)
    (ho : K.lookup f = some ⟨oc, od, .func (fnOf name qual params body scope dV kV doc pm an cdv ct), osl⟩) (hcd : codeIn K cdv qual = true) (hroom : A.depth < recursionLimit)
    (hbind : BindsTo s (fnOf name qual params body scope dV kV doc pm an cdv ct) args binds) (hloc : ∀ y ∈ binds, scope.names.lookup y.1 = some .local)
    (h : ∀ L' oL h₁, Fr h₀ L' h₁ (fun y => binds.reverse.lookup y) → News h₀ L' h₁ ((L, oL) :: news) → ONs oL m →
      wpAny (model prog w) (A.deeper (envOf qual scope L' f cdv)) (execs body (envOf qual scope L' f cdv))
        (fun fl s' => R (.ok (.ret (match fl with | .ret v => v | _ => .none))) s')
        (fun e s' => wpAny (model prog w) (A.deeper (envOf qual scope L' f cdv)) (leaving (envOf qual scope L' f cdv) e) (fun _ s'' => R (.error e) s'') (fun e' s'' => R (.error e') s'') s')
        { s with heap := h₁, toks := s.toks + binds.length })
    (hco : scope.isCoroutine = false) (hgen : scope.isGenerator = false) (hk : scope.kind = .function)
    (hcell : ∀ x ∈ scope.names, x.2 ≠ .cell) : codeAny (model prog w) A (.call (.ref f) args) R s := by
  refine codeAny_call_def (fd := fnOf name qual params body scope dV kV doc pm an cdv ct) (body := body) (binds := binds) hroom ((X₀.keeps F.keep) _ _ ho) rfl (hlim.keeps F.keep) (codeRec_of (X₀.keeps F.keep) hcd) rfl hbind hcell hloc (fun h₁ hns hk₁ => ?_) hco hgen hk
  obtain ⟨oL, hoL, hON⟩ := ONs.of F.ns
  refine h s.heap.objs.size oL h₁ ⟨hns, fun b o e => hk₁ b o (F.keep b o e), Nat.le_of_lt (Nat.lt_of_le_of_lt F.above F.ns.lt)⟩ (fun p hp => ?_) hON
  rcases List.mem_cons.mp hp with rfl | hp
  · refine ⟨hk₁ _ _ hoL, Nat.ne_of_lt F.ns.lt, ?_⟩
    cases q : h₀.get? L with
    | none => rfl
    | some o => exact absurd (Nat.lt_of_lt_of_le (Heap.lt_size q) F.above) (Nat.lt_irrefl _)
  · exact ⟨hk₁ _ _ (N p hp).1, Nat.ne_of_lt (Heap.lt_size (N p hp).1), (N p hp).2.2⟩
theorem back_noB {h' : Heap} {L' : Addr} {mm : Str → Option Value} {oL : Obj} (F : Fr h₀ L s.heap m) (N : News h₀ L s.heap news) (F' : Fr h₀ L' h' mm) (N' : News h₀ L' h' ((L, oL) :: news)) (hN : ONs oL m) : Fr h₀ L h' m ∧ News h₀ L h' news :=
  ⟨⟨hN.ns (N' _ (.head _)).1, F'.keep, F.above⟩, fun p hp => ⟨(N' p (.tail _ hp)).1, (N p hp).2⟩⟩
end
theorem init_ok (w : World) (mean : ExcName → Option Value) (mg mb : Str → Option Value) (news : List (Addr × Obj)) (V dV : Addr) (nd : Nat) (k : Nat → Tok) (v : Nat → Value) (bpc ffc kind fat ro : Value) (A : Around) (h₀ : Heap) (L : Addr) (m : Str → Option Value) (s : Shared) (Q E : Value → Shared → Prop)
    (F : Fr h₀ L s.heap m) (X : (Mine.hd.heap_1 w.params).In h₀) (N : News h₀ L s.heap news) (T : Top Mine.hd.view_39 (looseW Mine.hd.view_39 [Str.ofString "PyFATException", Str.ofString "errno", Str.ofString "PyFat"]) mean mg mb h₀)
    (hV : (V, instObj 316 dV) ∈ news) (hdV : (dV, dictOf (volEs w.params k v bpc ffc kind fat (.bool true) ro) nd) ∈ news) (hroom : A.depth < recursionLimit)
    (hret : ∀ h' tk', Fr h₀ L h' m → News h₀ L h' news → Q .none { s with heap := h', toks := tk' }) :
    wpAny (model PySem.Challenge.rw_jr0029_01.row.prog w) A (call (.ref 65) [.ref V]) Q E s := by
  refine wpAny_call ?_
  k_dflt (refine' code_noB ?k1 ?k2 ?k3 ?k4 ?k5 ?k6 hroom ?k7 ?k8 ?_ ?c1 ?c2 ?c3 ?c4)
  case k1 => exact F
  case k2 => exact X
  case k3 => exact N
  case k4 => exact T.nolimit
  case k5 => k_is
  case k6 => k_is
  case k7 => exact BindsTo.of_eq rfl
  case k8 => exact locs rfl
  case c1 => exact rfl
  case c2 => exact rfl
  case c3 => exact rfl
  case c4 => decide
  intro L' oL h₁ F1 N1 hON
  have hV1 : (V, instObj 316 dV) ∈ (L, oL) :: news := .tail _ hV
  have hdV1 : (dV, dictOf (volEs w.params k v bpc ffc kind fat (.bool true) ro) nd) ∈ (L, oL) :: news := .tail _ hdV
  (repeat' ((fail_if_success (with_reducible show wpAny _ _ (pyIter (Value.ref _)) _ _ _)); (first | (k_unfold; (try dsimp only)) | (k_end; wrow_close) | walk1 | (dsimp only; walk1) | ((dsimp only [List.nil_append, List.cons_append]); walk1) | (leave1; (try dsimp only)) | fail "no step")))
  obtain ⟨F2, N2⟩ := back_noB F N F1 N1 hON
  exact hret _ _ F2 N2
end
section
theorem rst_G5 : True := by w_top off; trivial
/-- what the generator needs of a heap to go on -/
def GPre (h₀ : Heap) (V dV lf Lg : Addr) (P : Params) (k : Nat → Tok) (v : Nat → Value) (bpc kind ro : Value) (nd nf : Nat) (fvs : List Value) (oL : Obj) (h : Heap) : Prop :=
  (∀ b o, h₀.get? b = some o → h.get? b = some o) ∧ h.get? Lg = some oL ∧ h.get? V = some (instObj 316 dV) ∧ h.get? lf = some (PySem.W.listOf fvs.toArray nf) ∧ ∃ ffc, h.get? dV = some (dictOf (volEs P k v bpc ffc kind (.ref lf) (.bool true) ro) nd)
/-- the chain lies in the table -/
def LiesIn (kind : Int) (fat chain : List Int) : Prop := ∀ j, j < chain.length → 2 ≤ chain.getD j 0 ∧ chain.getD j 0 < fat.length ∧ fat.getD (chain.getD j 0).toNat 0 = if j + 1 < chain.length then chain.getD (j + 1) 0 else ends kind
set_option linter.all false in
theorem gen_chain (w : World) (mean : ExcName → Option Value) (mg mb : Str → Option Value) (news : List (Addr × Obj)) (V dV lf : Addr) (nd nf : Nat) (k : Nat → Tok) (v : Nat → Value) (bpc ffc ro : Value) (kind : Int) (t3 tc : Tok) (fat chain : List Int) (fvs : List Value) 
   (dp un : Nat) (gd : Option (List Code)) (env : Env) (outer : List Env) (h₀ : Heap) (L : Addr) (m : Str → Option Value) (s : Shared) (R : Result → Shared → Prop) (c0 : Int)
    (F : Fr h₀ L s.heap m) (X : (Mine.hd.heap_1 w.params).In h₀) (N : News h₀ L s.heap news) (T : Top Mine.hd.view_39 (looseW Mine.hd.view_39 [Str.ofString "PyFATException", Str.ofString "errno", Str.ofString "PyFat"]) mean mg mb h₀)
    (hV : (V, instObj 316 dV) ∈ news) (hdV : (dV, dictOf (volEs w.params k v bpc ffc (.int kind t3) (.ref lf) (.bool true) ro) nd) ∈ news) (hlf : (lf, listOf fvs.toArray nf) ∈ news)
    (hfat : IntsAre fvs fat) (hk : Kind kind) (hlen : fat.length ≤ 60) (hch : LiesIn kind fat chain) (hc0 : chain.getD 0 0 = c0) (hcl : 0 < chain.length)
    (hdp : dp + 6 < recursionLimit) (hun : un + 60 < cLine)
    (hret : ∀ Lg Ga oL oG gst h₁ tk, Fr h₀ L h₁ m → News h₀ L h₁ ((Ga, oG) :: (Lg, oL) :: news) → GenO oG s.gens.size → @LT.lt Nat _ Lg Ga → @LT.lt Nat _ L Lg → (∀ p ∈ news, p.1 < Lg) → gst.bare = true →
      (∀ s'' : Shared, GPre h₀ V dV lf Lg w.params k v bpc (.int kind t3) ro nd nf fvs oL s''.heap → gst.Goes (model PySem.Challenge.rw_jr0029_01.row.prog w) (arTop dp un gd env outer).in1 (GR Lg NoX) (GY Lg (GPre h₀ V dV lf Lg w.params k v bpc (.int kind t3) ro nd nf fvs) chain) chain.length (.send .none) s'') →
      R (.ok (.ret (.ref Ga))) { s with heap := h₁, toks := tk, gens := s.gens.push gst }) :
    codeAny (model PySem.Challenge.rw_jr0029_01.row.prog w) (arTop dp un gd env outer) (.call (.ref 292) ⟨[.ref V, .int c0 tc], []⟩) R s := by
  k_dflt (refine' gen_make ?k1 ?k2 ?k3 ?k4 ?k5 ?k6 ?hroom ?k7 ?k8 ?_ ?c1 ?c2 ?c3 ?c4)
  case k1 => exact F
  case k2 => exact X
  case k3 => exact N
  case k4 => exact T.nolimit
  case k5 => k_is
  case k6 => k_is
  case hroom => exact Nat.lt_of_le_of_lt (Nat.le_add_right dp 6) hdp
  case k7 => exact BindsTo.of_eq rfl
  case k8 => exact locs rfl
  case c1 => exact rfl
  case c2 => exact rfl
  case c3 => exact rfl
  case c4 => decide
  intro Lg Ga oL oG h₁ tk F₁ N₁ hON hGO hLG hLL hlt hab
  refine hret Lg Ga oL oG _ h₁ tk F₁ N₁ hGO hLG hLL hlt rfl ?_
  have neV : V ≠ Lg := Nat.ne_of_lt (hlt _ hV)
  have nedV : dV ≠ Lg := Nat.ne_of_lt (hlt _ hdV)
  have nelf : lf ≠ Lg := Nat.ne_of_lt (hlt _ hlf)
  have fV := (N _ hV).2.2
  have fdV := (N _ hdV).2.2
  have flf := (N _ hlf).2.2
  have start : ∀ (oL' : Obj) (h : Heap) (mm : Str → Option Value), GPre h₀ V dV lf Lg w.params k v bpc (.int kind t3) ro nd nf fvs oL' h → ONs oL' mm → Fr h₀ Lg h mm ∧ ∃ ffc rest, News h₀ Lg h ((V, instObj 316 dV) :: (dV, dictOf (volEs w.params k v bpc ffc (.int kind t3) (.ref lf) (.bool true) ro) nd) :: (lf, PySem.W.listOf fvs.toArray nf) :: rest) ∧ ∀ h' mm', Fr h₀ Lg h' mm' → News h₀ Lg h' ((V, instObj 316 dV) :: (dV, dictOf (volEs w.params k v bpc ffc (.int kind t3) (.ref lf) (.bool true) ro) nd) :: (lf, PySem.W.listOf fvs.toArray nf) :: rest) → Kept Lg h h' := by
    rintro oL' h mm ⟨p1, p2, p3, p4, ffc, p5⟩ hO
    obtain ⟨rest, r1, r2⟩ := all_news (h₀ := h₀) (h := h) (Lg := Lg)
    refine ⟨⟨hO.ns p2, p1, hab⟩, ffc, rest, fun p hp => ?_, fun h' mm' F' N' => kept_of (pre := [(V, instObj 316 dV), (dV, dictOf (volEs w.params k v bpc ffc (.int kind t3) (.ref lf) (.bool true) ro) nd), (lf, PySem.W.listOf fvs.toArray nf)]) ⟨hO.ns p2, p1, hab⟩ r2 F' N'⟩
    rcases List.mem_cons.mp hp with rfl | hp
    · exact ⟨p3, neV, fV⟩
    · rcases List.mem_cons.mp hp with rfl | hp
      · exact ⟨p5, nedV, fdV⟩
      · rcases List.mem_cons.mp hp with rfl | hp
        · exact ⟨p4, nelf, flf⟩
        · exact r1 p hp
  intro s'' hPre
  refine ⟨rfl, ?_⟩
  refine seg_func ?_
  refine seg_execs_cons (seg_stmt (over_func ..) ?_)
  obtain ⟨F2, ffc2, rest, N2, hr2⟩ := start oL s''.heap _ hPre hON
  (repeat' ((fail_if_success (with_reducible show wpAny _ _ (pyIter (Value.ref _)) _ _ _)); (first | (k_unfold; (try dsimp only)) | (k_end; wrow_close) | walk1 | (dsimp only; walk1) | ((dsimp only [List.nil_append, List.cons_append]); walk1) | (leave1; (try dsimp only)) | fail "no step")))
  refine init_ok w mean mg mb _ V dV nd k v bpc ffc2 (.int kind t3) (.ref lf) ro _ h₀ Lg _ _ _ _ F2 X N2 T (.head _) (.tail _ (.head _)) ?_ ?_
  · exact Nat.lt_of_le_of_lt (by show dp + 1 ≤ dp + 6; omega) hdp
  intro h' tk' F3 N3
  have hmax : 4079 ≤ maxv kind := by rcases hk with rfl | rfl | rfl <;> decide
  have heoc : maxv kind < ends kind ∧ eocMin kind ≤ ends kind ∧ (kind = 12 → ends kind ≠ 4080) := by rcases hk with rfl | rfl | rfl <;> decide
  have hfl := hfat.length
  have mk : ∀ (h : Heap) (mm : Str → Option Value) (ffc : Value) (rest : List (Addr × Obj)), Fr h₀ Lg h mm → News h₀ Lg h ((V, instObj 316 dV) :: (dV, dictOf (volEs w.params k v bpc ffc (.int kind t3) (.ref lf) (.bool true) ro) nd) :: (lf, PySem.W.listOf fvs.toArray nf) :: rest) → ∃ oL', ONs oL' mm ∧ GPre h₀ V dV lf Lg w.params k v bpc (.int kind t3) ro nd nf fvs oL' h := by
    intro h mm ffc rest F N
    obtain ⟨oL', ho', hO'⟩ := ONs.of F.ns
    exact ⟨oL', hO', F.keep, ho', (N _ (.head _)).1, (N _ (.tail _ (.tail _ (.head _)))).1, ffc, (N _ (.tail _ (.head _))).1⟩
  iterate 6 (refine seg_execs_cons (seg_stmt (over_func ..) ?_); (repeat' ((fail_if_success (with_reducible show wpAny _ _ (pyIter (Value.ref _)) _ _ _)); (first | (k_unfold; (try dsimp only)) | (k_end; wrow_close) | walk1 | (dsimp only; walk1) | ((dsimp only [List.nil_append, List.cons_append]); walk1) | (leave1; (try dsimp only)) | fail "no step"))))
  rename Fr _ _ _ _ => F4
  rename News _ _ _ _ => N4
  have hk4 := hr2 _ _ F4 N4
  obtain ⟨oL4, hO4, hP4⟩ := mk _ _ _ _ F4 N4
  refine seg_execs_cons (seg_While fun pw => ?_)
  clear hr2 N4 N₁ F₁
  refine (?key : ∀ (r j : Nat) (s₀ : Shared) (h : Heap) (tk : Nat) (mm : Str → Option Value) (oL' : Obj) (t1 t2 t4 t5 t6 : Tok), j + r = chain.length → 0 < r → Kept Lg s₀.heap h → GPre h₀ V dV lf Lg w.params k v bpc (.int kind t3) ro nd nf fvs oL' h → ONs oL' mm →
    mm (Str.ofString "self") = some (.ref V) → mm (Str.ofString "cluster_vals") = some (.ref (fcvA kind)) → mm (Str.ofString "min_data_cluster") = some (.int 2 t1) → mm (Str.ofString "max_data_cluster") = some (.int (maxv kind) t2) → mm (Str.ofString "eoc_min") = some (.int (eocMin kind) t4) → mm (Str.ofString "eoc_max") = some (.int (ends kind) t5) → mm (Str.ofString "i") = some (.int (chain.getD j 0) t6) →
    Seg (model PySem.Challenge.rw_jr0029_01.row.prog w) (arTop dp un gd env outer).in1 (GR Lg NoX) (GY Lg (GPre h₀ V dV lf Lg w.params k v bpc (.int kind t3) ro nd nf fvs) chain) r s₀ _ _ _ { s₀ with heap := h, toks := tk })
    chain.length 0 s'' _ _ _ oL4 _ _ _ _ _ (Nat.zero_add _) hcl hk4 hP4 hO4 rfl rfl rfl rfl rfl rfl (by rw [hc0]; rfl)
  clear hk4 hP4 hO4 F4 hPre hret
  intro r
  induction r with
  | zero => intro j s₀ h tk mm oL' t1 t2 t4 t5 t6 _ h0; exact absurd h0 (Nat.lt_irrefl _)
  | succ r ih =>
    intro j s₀ h tk mm oL' t1 t2 t4 t5 t6 hj _ hkp hP hO n1 n2 n3 n4 n5 n6 n7
    obtain ⟨F, ffc, rest, N, hr⟩ := start oL' h mm hP hO
    obtain ⟨b1, b2, b3⟩ := hch j (by omega)
    refine seg_whileLoop ?_
    refine (?q : wpAny _ ((arTop dp (un + 1) gd env outer).deeper _) _ _ _ _)
    (repeat' ((fail_if_success (with_reducible show wpAny _ _ (pyIter (Value.ref _)) _ _ _)); (first | (k_unfold; (try dsimp only)) | (k_end; wrow_close) | walk1 | (dsimp only; walk1) | ((dsimp only [List.nil_append, List.cons_append]); walk1) | (leave1; (try dsimp only)) | fail "no step")))
    refine seg_execs_cons (seg_If (A' := (arTop dp (un + 1) gd env outer).deeper _) rfl ?_)
    by_cases hl : j + 1 < chain.length
    · rw [if_pos hl] at b3
      obtain ⟨d1, d2, _⟩ := hch (j + 1) hl
      (repeat' ((fail_if_success (with_reducible show wpAny _ _ (pyIter (Value.ref _)) _ _ _)); (first | (k_unfold; (try dsimp only)) | (k_end; wrow_close) | walk1 | (dsimp only; walk1) | ((dsimp only [List.nil_append, List.cons_append]); walk1) | (leave1; (try dsimp only)) | fail "no step")))
      refine seg_execs_cons (seg_Expr_Yield rfl rfl rfl ?_)
      refine (?q1 : wpAny _ ((arTop dp (un + 1) gd env outer).deeper _) _ _ _ _)
      (repeat' ((fail_if_success (with_reducible show wpAny _ _ (pyIter (Value.ref _)) _ _ _)); (first | (k_unfold; (try dsimp only)) | (k_end; wrow_close) | walk1 | (dsimp only; walk1) | ((dsimp only [List.nil_append, List.cons_append]); walk1) | (leave1; (try dsimp only)) | fail "no step")))
      rename_i kap hkap
      refine ⟨t6, oL', h, _, chain.getD j 0, by omega, ?_, rfl, rfl, hkp, hP.2.1, hP, fun s'' hP'' => hkap .none s'' ?_⟩
      · have e : chain.length - 1 - r = j := by omega
        rw [e, List.getD_eq_getElem?_getD, List.getElem?_eq_getElem (by omega)]
        rfl
      · clear F N hr hP hkp hkap
        obtain ⟨F', ffc', rest', N', hr'⟩ := start oL' s''.heap mm hP'' hO
        dsimp only
        refine seg_execs_nil ?_
        refine seg_execs_cons (seg_stmt (A' := (arTop dp (un + 1) gd env outer).deeper _) rfl ?_)
        (repeat' ((fail_if_success (with_reducible show wpAny _ _ (pyIter (Value.ref _)) _ _ _)); (first | (k_unfold; (try dsimp only)) | (k_end; wrow_close) | walk1 | (dsimp only; walk1) | ((dsimp only [List.nil_append, List.cons_append]); walk1) | (leave1; (try dsimp only)) | fail "no step")))
        rename Fr _ _ _ _ => F6
        rename News _ _ _ _ => N6
        have hk6 := hr' _ _ F6 N6
        obtain ⟨oL6, hO6, hP6⟩ := mk _ _ _ _ F6 N6
        refine seg_execs_nil ?_
        refine seg_again rfl ?_
        exact ih (j + 1) s'' _ _ _ oL6 _ _ _ _ _ (by omega) (by omega) hk6 hP6 hO6 n1 n2 n3 n4 n5 n6 (congrArg (fun z => some (Value.int z _)) b3)
    · rw [if_neg hl] at b3
      obtain rfl : r = 0 := by omega
      (repeat' ((fail_if_success (with_reducible show wpAny _ _ (pyIter (Value.ref _)) _ _ _)); (first | (k_unfold; (try dsimp only)) | (k_end; wrow_close) | walk1 | (dsimp only; walk1) | ((dsimp only [List.nil_append, List.cons_append]); walk1) | (leave1; (try dsimp only)) | fail "no step")))
      refine seg_execs_cons (seg_If (A' := (arTop dp (un + 1) gd env outer).deeper _) rfl ?_)
      (repeat' ((fail_if_success (with_reducible show wpAny _ _ (pyIter (Value.ref _)) _ _ _)); (first | (k_unfold; (try dsimp only)) | (k_end; wrow_close) | walk1 | (dsimp only; walk1) | ((dsimp only [List.nil_append, List.cons_append]); walk1) | (leave1; (try dsimp only)) | fail "no step")))
      all_goals first | (exfalso; omega) | skip
      all_goals (
        refine seg_execs_cons (seg_If (A' := (arTop dp (un + 1) gd env outer).deeper _) rfl ?_)
        (repeat' ((fail_if_success (with_reducible show wpAny _ _ (pyIter (Value.ref _)) _ _ _)); (first | (k_unfold; (try dsimp only)) | (k_end; wrow_close) | walk1 | (dsimp only; walk1) | ((dsimp only [List.nil_append, List.cons_append]); walk1) | (leave1; (try dsimp only)) | fail "no step")))
        refine seg_execs_cons (seg_Expr_Yield rfl rfl rfl ?_)
        change wpAny _ ((arTop dp (un + 1) gd env outer).deeper _) _ _ _ _
        (repeat' ((fail_if_success (with_reducible show wpAny _ _ (pyIter (Value.ref _)) _ _ _)); (first | (k_unfold; (try dsimp only)) | (k_end; wrow_close) | walk1 | (dsimp only; walk1) | ((dsimp only [List.nil_append, List.cons_append]); walk1) | (leave1; (try dsimp only)) | fail "no step")))
        rename_i kap hkap
        refine ⟨t6, oL', h, _, chain.getD j 0, by omega, ?_, rfl, rfl, hkp, hP.2.1, hP, fun s'' hP'' => hkap .none s'' ?_⟩
        · have e : chain.length - 1 - 0 = j := by omega
          rw [e, List.getD_eq_getElem?_getD, List.getElem?_eq_getElem (by omega)]
          rfl
        · clear F N hr hP hkp hkap
          obtain ⟨F', ffc', rest', N', hr'⟩ := start oL' s''.heap mm hP'' hO
          dsimp only
          refine seg_execs_cons (seg_stmt (A' := (arTop dp (un + 1) gd env outer).deeper _) rfl ?_)
          (repeat' ((fail_if_success (with_reducible show wpAny _ _ (pyIter (Value.ref _)) _ _ _)); (first | (k_unfold; (try dsimp only)) | (k_end; wrow_close) | walk1 | (dsimp only; walk1) | ((dsimp only [List.nil_append, List.cons_append]); walk1) | (leave1; (try dsimp only)) | fail "no step")))
          refine seg_leaf (.ok (.ret .none)) ?_
          refine seg_end (.ok (.ret .none)) (.inl ⟨rfl, rfl, _, _, oL', rfl, hr' _ _ F' N', hP''.2.1⟩))
end
section
theorem rst_W1 : True := by w_top off; trivial
set_option linter.all false in
theorem walk_claim (w : World) (mean : ExcName → Option Value) (mg mb : Str → Option Value) (news : List (Addr × Obj)) (V dV lf : Addr) (nd nf : Nat) (k : Nat → Tok) (v : Nat → Value) (bpc ffc ro : Value) (kind : Int) (t3 tc : Tok) (fat chain : List Int) (fvs : List Value) 
   (dp un : Nat) (gd : Option (List Code)) (env : Env) (outer : List Env) (A₀ : Around) (base h₀ : Heap) (L : Addr) (m : Str → Option Value) (s : Shared) (Q E : Value → Shared → Prop) (c0 : Int)
    (B : Below A₀ base outer h₀) (F : Fr h₀ L s.heap m) (X : (Mine.hd.heap_1 w.params).In h₀) (N : News h₀ L s.heap news) (T : Top Mine.hd.view_39 (looseW Mine.hd.view_39 [Str.ofString "PyFATException", Str.ofString "errno", Str.ofString "PyFat"]) mean mg mb h₀) (hcs : env.scope.kind = .function) (hfr : env.frame = some L)
    (hV : (V, instObj 316 dV) ∈ news) (hdV : (dV, dictOf (volEs w.params k v bpc ffc (.int kind t3) (.ref lf) (.bool true) ro) nd) ∈ news) (hlf : (lf, listOf fvs.toArray nf) ∈ news)
    (hfat : IntsAre fvs fat) (hk : Kind kind) (hlen : fat.length ≤ 60) (hch : LiesIn kind fat chain) (hc0 : chain.getD 0 0 = c0) (hcl : 0 < chain.length) (hc9 : chain.length ≤ 30)
    (hgb : AllBare s.gens) (hdp : dp + 9 < recursionLimit) (hun : un + 90 < cLine)
    (hret : ∀ r h' tk' gens' n us, AllBare gens' → Fr h₀ L h' m → News h₀ L h' ((r, listOf (List.toArray us) n) :: news) → (∀ p ∈ news, p.1 < r) → IntsAre us chain → Q (.ref r) { s with heap := h', toks := tk', gens := gens' }) :
      wpAny (model PySem.Challenge.rw_jr0029_01.row.prog w) (arTop dp un gd env outer) (call (.ref 355) [.ref V, .int c0 tc]) Q E s := by
  refine wpAny_call ?_
  k_dflt (walk_at "my_enter")
  (repeat' ((fail_if_success (with_reducible show wpAny _ _ (exec (Stmt.For _ _ _ _ _) _) _ _ _)); (fail_if_success (with_reducible show wpAny _ _ (pyIter (Value.ref _)) _ _ _)); (first | (k_unfold; (try dsimp only)) | (k_end; wrow_close) | walk1 | (dsimp only; walk1) | ((dsimp only [List.nil_append, List.cons_append]); walk1) | (leave1; (try dsimp only)) | fail "no step")))
  refine wpAny_For ?_
  (repeat' ((fail_if_success (with_reducible show wpAny _ _ (exec (Stmt.For _ _ _ _ _) _) _ _ _)); (fail_if_success (with_reducible show wpAny _ _ (pyIter (Value.ref _)) _ _ _)); (first | (k_unfold; (try dsimp only)) | (k_end; wrow_close) | walk1 | (dsimp only; walk1) | ((dsimp only [List.nil_append, List.cons_append]); walk1) | (leave1; (try dsimp only)) | fail "no step")))
  rename (∀ (p : Addr × Obj), p ∈ news → p.fst < _) => hlt
  rename Fr _ _ _ _ => F1
  rename News _ _ _ _ => N1
  rename Top _ _ _ _ _ _ => T1
  rename Frag.In _ _ => X1
  rename_i lfd _ _
  refine wpAny_call ?_
  refine gen_chain w mean mg mb _ V dV lf nd nf k v bpc ffc ro kind t3 _ fat chain fvs _ _ _ _ _ _ _ _ _ _ _ F1 X1 N1 T1 (.tail _ hV) (.tail _ hdV) (.tail _ hlf) hfat hk hlen hch hc0 hcl ?dp ?un ?h
  case dp => (show dp + 1 + 6 < _); omega
  case un => (show un + 3 + 60 < _); omega
  intro Lg Ga oL oG gst h₁ tk1 F2 N2 hGO hLG hLL hlt2 hgst hgo
  clear F1 N1
  have hnlt : lfd < Lg := hlt2 _ (.head _)
  refine wpAny_pyIter_gen (hGO.is (N2 _ (.head _)).1) ?_
  refine gen_loop (X := NoX) (oG := oG) (Lg := Lg) (gi := s.gens.size) (fun i m₁ nx => (∃ us n, nx = (lfd, listOf us.toArray n) :: news ∧ IntsAre us (chain.take i)) ∧ m₁ (Str.ofString "found") = some (.ref lfd)) rfl rfl rfl T1.nolimit ?room hGO (Nat.ne_of_gt hLG) ?hpre (AllBare.push hgb hgst) ?hgs hgo F2 N2 ?hoff ⟨⟨_, _, rfl, .nil⟩, rfl⟩ ?hX ?turn ?done
  case room => (show dp + 1 < _); omega
  case hX => exact fun _ _ _ _ _ _ _ _ _ _ _ _ _ _ h => h.elim
  case hgs => exact Array.getElem?_push_size
  case hoff =>
    intro p hp
    have := hlt2 p hp
    exact ⟨Nat.ne_of_lt (Nat.lt_trans this hLG), Nat.ne_of_lt this⟩
  case hpre =>
    rintro i m₁ nx h oL' ⟨⟨us, n, rfl, _⟩, _⟩ F3 N3
    have z : ∀ p ∈ news, h.get? p.1 = some p.2 := fun p hp => (N3 p (.tail _ (.tail _ (.tail _ hp)))).1
    exact ⟨F3.keep, (N3 _ (.tail _ (.head _))).1, z _ hV, z _ hlf, _, z _ hdV⟩
  case turn =>
    rintro i t c m₁ nx h tk9 gens9 oL' m₂ hb9 hc hoff9 ⟨⟨us, n, rfl, hus⟩, kf⟩ hx hy F3 N3
    have k1 := (hy (Str.ofString "found") (by decide)).trans kf
    clear hy
    have hi9 : i < chain.length := (List.getElem?_eq_some_iff.mp hc).1
    have hul : us.length = i := by
      have := hus.length
      rw [List.length_take] at this
      omega
    have hA1 : @Ne Nat lfd Ga := (hoff9 (lfd, _) (.head _)).1
    have hA2 : @Ne Nat lfd Lg := (hoff9 (lfd, _) (.head _)).2
    have hA3 : @Ne Nat Ga lfd := fun e => hA1 e.symm
    have hA4 : @Ne Nat Lg lfd := fun e => hA2 e.symm
    have hA5 : @Ne Nat Ga Lg := Nat.ne_of_gt hLG
    have hA6 : @Ne Nat Lg Ga := Nat.ne_of_lt hLG
    have hn5 : ∀ p ∈ news, p.1 ≠ lfd := fun p hp => Nat.ne_of_lt (hlt p hp)
    clear F2 N2
    have hus2 : IntsAre (us ++ [.int c t]) (chain.take (i + 1)) := by
      rw [List.take_add_one, hc]
      exact IntsAre.append hus (.cons _ _ .nil)
    have htl : (chain.take (i + 1)).length = i + 1 := by rw [List.length_take]; omega
    refine wpAny_passesOwn (by passes_own) ?_
    (repeat' ((fail_if_success (with_reducible show wpAny _ _ (pyIter (Value.ref _)) _ _ _)); (first | (k_unfold; (try dsimp only)) | (k_end; wrow_close) | walk1 | (dsimp only; walk1) | ((dsimp only [List.nil_append, List.cons_append]); walk1) | (leave1; (try dsimp only)) | fail "no step")))
    refine ⟨_, _, _, _, rfl, by k_asm, by k_asm, ?_, ⟨_, _, rfl, hus2⟩, k1⟩
    · exact fun p hp => by
        rcases List.mem_cons.mp hp with rfl | hp
        · exact ⟨hA1, hA2⟩
        · exact hoff9 p (.tail _ hp)
  case done =>
    rintro m₁ nx h tk9 gens9 oL' hb9 ⟨⟨us, n, rfl, hus⟩, kf⟩ hoff9 F3 N3
    rw [List.take_length] at hus
    clear F2 N2
    (repeat' ((fail_if_success (with_reducible show wpAny _ _ (pyIter (Value.ref _)) _ _ _)); (first | (k_unfold; (try dsimp only)) | (k_end; wrow_close) | walk1 | (dsimp only; walk1) | ((dsimp only [List.nil_append, List.cons_append]); walk1) | (leave1; (try dsimp only)) | fail "no step")))
    rename Fr h₀ _ _ _ => F9
    rename News h₀ _ _ (_ :: _ :: _) => N9
    exact hret lfd _ _ _ _ _ hb9 F9 (News_drop1 (News_drop1 N9)) hlt hus
end
section
theorem rst_R1 : True := by w_top off; trivial
/-- the table with a chain's places marked free -/
def freed (fat chain : List Int) : List Int := chain.foldl (fun t c => t.set c.toNat 0) fat
def minOf (p : Int) (chain : List Int) : Int := chain.foldl (fun q c => if q < c then q else c) p
theorem freed_length (fat chain : List Int) : (freed fat chain).length = fat.length := by
  unfold freed
  induction chain generalizing fat with
  | nil => rfl
  | cons c r ih => rw [List.foldl_cons, ih, List.length_set]
set_option linter.all false in
theorem free_claim (w : World) (mean : ExcName → Option Value) (mg mb : Str → Option Value) (rest : List (Addr × Obj)) (V dV lf : Addr) (nd nf : Nat) (k : Nat → Tok) (v : Nat → Value) (bpc : Value) (ffc kind c0 : Int) (t2 t3 tc : Tok) (fat chain : List Int) (fvs : List Value)
   (dp un : Nat) (gd : Option (List Code)) (env : Env) (outer : List Env) (A₀ : Around) (base h₀ : Heap) (L : Addr) (m : Str → Option Value) (s : Shared) (Q E : Value → Shared → Prop)
    (B : Below A₀ base outer h₀) (F : Fr h₀ L s.heap m) (X : (Mine.hd.heap_1 w.params).In h₀) (N : News h₀ L s.heap ((V, instObj 316 dV) :: (dV, dictOf (volEs w.params k v bpc (.int ffc t2) (.int kind t3) (.ref lf) (.bool true) (.bool false)) nd) :: (lf, listOf fvs.toArray nf) :: rest)) (T : Top Mine.hd.view_39 (looseW Mine.hd.view_39 [Str.ofString "PyFATException", Str.ofString "errno", Str.ofString "PyFat"]) mean mg mb h₀) (hcs : env.scope.kind = .function) (hfr : env.frame = some L)
    (hV1 : @Ne Nat V dV) (hV2 : @Ne Nat V lf) (hV3 : @Ne Nat dV lf) (hr1 : ∀ p ∈ rest, p.1 ≠ V) (hr2 : ∀ p ∈ rest, p.1 ≠ dV) (hr3 : ∀ p ∈ rest, p.1 ≠ lf)
    (hfat : IntsAre fvs fat) (hk : Kind kind) (hlen : fat.length ≤ 60) (hch : LiesIn kind fat chain) (hc0 : chain.getD 0 0 = c0) (hcl : 0 < chain.length) (hffc : 0 ≤ ffc ∧ ffc < 1000)
    (hgb : AllBare s.gens) (hdp : dp + 9 < recursionLimit) (hun : un + 90 < cLine)
    (hret : ∀ r us n t' h' tk' gens', AllBare gens' → Fr h₀ L h' m → News h₀ L h' ((r, listOf (List.toArray us) n) :: (V, instObj 316 dV) :: (dV, dictOf (volEs w.params k v bpc (.int (minOf ffc chain) t') (.int kind t3) (.ref r) (.bool true) (.bool false)) nd) :: (lf, listOf fvs.toArray nf) :: rest) → (@LT.lt Nat _ V r ∧ @LT.lt Nat _ dV r ∧ @LT.lt Nat _ lf r ∧ ∀ q ∈ rest, q.1 < r) →
      IntsAre us (freed fat chain) → Q .none { s with heap := h', toks := tk', gens := gens' }) :
      wpAny (model PySem.Challenge.rw_jr0029_01.row.prog w) (arTop dp un gd env outer) (call (.ref 189) [.ref V, .int c0 tc]) Q E s := by
  refine wpAny_call ?_
  k_dflt (walk_at "my_enter")
  have hfl := hfat.length
  (repeat' ((fail_if_success (with_reducible show wpAny _ _ (exec (Stmt.For _ _ _ _ _) _) _ _ _)); (fail_if_success (with_reducible show wpAny _ _ (pyIter (Value.ref _)) _ _ _)); (first | (k_unfold; (try dsimp only)) | (k_end; wrow_close) | walk1 | (dsimp only; walk1) | ((dsimp only [List.nil_append, List.cons_append]); walk1) | (leave1; (try dsimp only)) | fail "no step")))
  refine wpAny_For ?_
  (repeat' ((fail_if_success (with_reducible show wpAny _ _ (exec (Stmt.For _ _ _ _ _) _) _ _ _)); (fail_if_success (with_reducible show wpAny _ _ (pyIter (Value.ref _)) _ _ _)); (first | (k_unfold; (try dsimp only)) | (k_end; wrow_close) | walk1 | (dsimp only; walk1) | ((dsimp only [List.nil_append, List.cons_append]); walk1) | (leave1; (try dsimp only)) | fail "no step")))
  rename (_ ∧ _ ∧ _ ∧ AllLt _ rest) => hlt
  rename Fr _ _ _ _ => F1
  rename News _ _ _ _ => N1
  rename Top _ _ _ _ _ _ => T1
  rename Frag.In _ _ => X1
  rename_i lt _ _
  refine wpAny_call ?_
  refine gen_chain w mean mg mb _ V dV lf nd nf k v bpc (.int ffc t2) (.bool false) kind t3 _ fat chain fvs _ _ _ _ _ _ _ _ _ _ _ F1 X1 N1 T1 (.tail _ (.head _)) (.tail _ (.tail _ (.head _))) (.tail _ (.tail _ (.tail _ (.head _)))) hfat hk hlen hch hc0 hcl ?dp ?un ?h
  case dp => (show dp + 1 + 6 < _); omega
  case un => (show un + 3 + 60 < _); omega
  intro Lg Ga oL oG gst h₁ tk1 F2 N2 hGO hLG hLL hlt2 hgst hgo
  clear F1 N1
  have hr4 : ∀ p ∈ rest, p.1 ≠ lt := fun p hp => Nat.ne_of_lt (kst_ltOf hlt.2.2.2 p hp)
  have hl1 : @Ne Nat lt V := Nat.ne_of_gt hlt.1
  have hl2 : @Ne Nat lt dV := Nat.ne_of_gt hlt.2.1
  have hl3 : @Ne Nat lt lf := Nat.ne_of_gt hlt.2.2.1
  refine wpAny_pyIter_gen (hGO.is (N2 _ (.head _)).1) ?_
  refine gen_loop (X := NoX) (oG := oG) (Lg := Lg) (gi := s.gens.size) (fun i m₁ nx => (∃ us n tp, nx = (lt, listOf us.toArray n) :: (V, instObj 316 dV) :: (dV, dictOf (volEs w.params k v bpc (.int (minOf ffc (chain.take i)) tp) (.int kind t3) (.ref lf) (.bool true) (.bool false)) nd) :: (lf, listOf fvs.toArray nf) :: rest ∧ IntsAre us (freed fat (chain.take i))) ∧ m₁ (Str.ofString "self") = some (.ref V) ∧ m₁ (Str.ofString "tmp_fat") = some (.ref lt) ∧ (∃ t, m₁ (Str.ofString "_freeclus") = some (.int 0 t))) rfl rfl rfl T1.nolimit ?room hGO (Nat.ne_of_gt hLG) ?hpre (AllBare.push hgb hgst) ?hgs hgo F2 N2 ?hoff ⟨⟨_, _, _, rfl, hfat⟩, rfl, rfl, ⟨_, rfl⟩⟩ ?hX ?turn ?done
  case room => (show dp + 1 < _); omega
  case hX => exact fun _ _ _ _ _ _ _ _ _ _ _ _ _ _ h => h.elim
  case hgs => exact Array.getElem?_push_size
  case hoff =>
    intro p hp
    have := hlt2 p hp
    exact ⟨Nat.ne_of_lt (Nat.lt_trans this hLG), Nat.ne_of_lt this⟩
  case hpre =>
    rintro i m₁ nx h oL' ⟨⟨us, n, tp, rfl, _⟩, _⟩ F3 N3
    exact ⟨F3.keep, (N3 _ (.tail _ (.head _))).1, (N3 _ (.tail _ (.tail _ (.tail _ (.head _))))).1, (N3 _ (.tail _ (.tail _ (.tail _ (.tail _ (.tail _ (.head _))))))).1, _, (N3 _ (.tail _ (.tail _ (.tail _ (.tail _ (.head _)))))).1⟩
  case turn =>
    rintro i t c m₁ nx h tk9 gens9 oL' m₂ hb9 hc hoff9 ⟨⟨us, n, tp, rfl, hus⟩, k1, k2, ⟨u3, k3⟩⟩ hx hy F3 N3
    have k1 := (hy (Str.ofString "self") (by decide)).trans k1
    have k2 := (hy (Str.ofString "tmp_fat") (by decide)).trans k2
    have k3 := (hy (Str.ofString "_freeclus") (by decide)).trans k3
    clear hy
    have hi9 : i < chain.length := (List.getElem?_eq_some_iff.mp hc).1
    have hci : chain.getD i 0 = c := by rw [List.getD_eq_getElem?_getD, hc]; rfl
    obtain ⟨b1, b2, _⟩ := hch i hi9
    rw [hci] at b1 b2
    have hfrl : (freed fat (chain.take i)).length = fat.length := freed_length _ _
    have hul := hus.length
    have hts : chain.take (i + 1) = chain.take i ++ [c] := by rw [List.take_add_one, hc]; rfl
    have hA1 : @Ne Nat Ga lt := fun e => (hoff9 (lt, _) (.head _)).1 e.symm
    have hA2 : @Ne Nat Lg lt := fun e => (hoff9 (lt, _) (.head _)).2 e.symm
    have hA3 : @Ne Nat Ga V := fun e => (hoff9 (V, _) (.tail _ (.head _))).1 e.symm
    have hA4 : @Ne Nat Lg V := fun e => (hoff9 (V, _) (.tail _ (.head _))).2 e.symm
    have hA5 : @Ne Nat Ga dV := fun e => (hoff9 (dV, _) (.tail _ (.tail _ (.head _)))).1 e.symm
    have hA6 : @Ne Nat Lg dV := fun e => (hoff9 (dV, _) (.tail _ (.tail _ (.head _)))).2 e.symm
    have hA7 : @Ne Nat Ga lf := fun e => (hoff9 (lf, _) (.tail _ (.tail _ (.tail _ (.head _))))).1 e.symm
    have hA8 : @Ne Nat Lg lf := fun e => (hoff9 (lf, _) (.tail _ (.tail _ (.tail _ (.head _))))).2 e.symm
    have hr5 : ∀ p ∈ rest, p.1 ≠ Ga := fun p hp => (hoff9 p (.tail _ (.tail _ (.tail _ (.tail _ hp))))).1
    have hr6 : ∀ p ∈ rest, p.1 ≠ Lg := fun p hp => (hoff9 p (.tail _ (.tail _ (.tail _ (.tail _ hp))))).2
    have hGL1 : @Ne Nat Ga Lg := Nat.ne_of_gt hLG
    clear F2 N2
    refine wpAny_passesOwn (by passes_own) ?_
    (repeat' ((fail_if_success (with_reducible show wpAny _ _ (pyIter (Value.ref _)) _ _ _)); (first | (k_unfold; (try dsimp only)) | (k_end; wrow_close) | walk1 | (dsimp only; walk1) | ((dsimp only [List.nil_append, List.cons_append]); walk1) | (leave1; (try dsimp only)) | fail "no step")))
    rename IntsAre _ (List.set _ _ _) => hi2
    rename News _ _ _ (_ :: _ :: _) => N9
    have hm : minOf ffc (chain.take (i + 1)) = if minOf ffc (chain.take i) < c then minOf ffc (chain.take i) else c := by
      rw [hts]
      unfold minOf
      rw [List.foldl_append]
      rfl
    have hf : freed fat (chain.take (i + 1)) = (freed fat (chain.take i)).set c.toNat 0 := by
      rw [hts]
      unfold freed
      rw [List.foldl_append]
      rfl
    refine ⟨_, _, _, _, rfl, by k_asm, N9, ?_, ⟨_, _, _, by rw [hm], ?_⟩, k1, k2, ⟨_, k3⟩⟩
    · exact fun p hp => by
        rcases List.mem_cons.mp hp with rfl | hp
        · exact ⟨hA1.symm, hA2.symm⟩
        rcases List.mem_cons.mp hp with rfl | hp
        · exact ⟨hA3.symm, hA4.symm⟩
        rcases List.mem_cons.mp hp with rfl | hp
        · exact ⟨hA5.symm, hA6.symm⟩
        rcases List.mem_cons.mp hp with rfl | hp
        · exact ⟨hA7.symm, hA8.symm⟩
        exact ⟨hr5 p hp, hr6 p hp⟩
    · rw [hf]
      exact hi2
  case done =>
    rintro m₁ nx h tk9 gens9 oL' hb9 ⟨⟨us, n, tp, rfl, hus⟩, k1, k2, _⟩ hoff9 F3 N3
    rw [List.take_length] at hus N3
    have hA3 : @Ne Nat Ga V := fun e => (hoff9 (V, _) (.tail _ (.head _))).1 e.symm
    have hA4 : @Ne Nat Lg V := fun e => (hoff9 (V, _) (.tail _ (.head _))).2 e.symm
    have hA5 : @Ne Nat Ga dV := fun e => (hoff9 (dV, _) (.tail _ (.tail _ (.head _)))).1 e.symm
    have hA6 : @Ne Nat Lg dV := fun e => (hoff9 (dV, _) (.tail _ (.tail _ (.head _)))).2 e.symm
    clear F2 N2
    (repeat' ((fail_if_success (with_reducible show wpAny _ _ (pyIter (Value.ref _)) _ _ _)); (first | (k_unfold; (try dsimp only)) | (k_end; wrow_close) | walk1 | (dsimp only; walk1) | ((dsimp only [List.nil_append, List.cons_append]); walk1) | (leave1; (try dsimp only)) | fail "no step")))
    rename Fr h₀ _ _ _ => F9
    rename News h₀ _ _ (_ :: _ :: _) => N9
    exact hret lt _ _ _ _ _ _ hb9 F9 (News_drop1 (News_drop1 N9)) ⟨hlt.1, hlt.2.1, hlt.2.2.1, kst_ltOf hlt.2.2.2⟩ hus
end
section
theorem rst_PL : True := by w_top off; trivial
theorem putPart_off (e : Int) (c t : List Int) (q : Nat) (h0 : ∀ z ∈ c, 0 ≤ z) (hq : (q : Int) ∉ c) : ∀ k, k ≤ c.length → (putPart e c t k).getD q 0 = t.getD q 0 := by
  intro k
  induction k with
  | zero => intro _; rfl
  | succ k ih =>
    intro hk
    rw [putPart_succ]
    unfold putStep
    have hm : c.getD k 0 ∈ c := by
      rw [List.getD_eq_getElem?_getD, List.getElem?_eq_getElem (by omega)]
      exact List.getElem_mem _
    have hne : (c.getD k 0).toNat ≠ q := fun e => hq (by
      have := h0 _ hm
      have e2 : c.getD k 0 = (q : Int) := by omega
      exact e2 ▸ hm)
    rw [List.getD_eq_getElem?_getD, List.getElem?_set_ne hne, ← List.getD_eq_getElem?_getD]
    exact ih (by omega)
theorem getD_inj {c : List Int} (hn : c.Nodup) {i j : Nat} (hi : i < c.length) (hj : j < c.length) (h : c.getD i 0 = c.getD j 0) : i = j := by
  rw [List.getD_eq_getElem?_getD, List.getElem?_eq_getElem hi, List.getD_eq_getElem?_getD, List.getElem?_eq_getElem hj] at h
  have hp := List.pairwise_iff_getElem.mp hn
  rcases Nat.lt_trichotomy i j with hlt | rfl | hlt
  · exact absurd h (hp i j hi hj hlt)
  · rfl
  · exact absurd h.symm (hp j i hj hi hlt)
theorem getD_mem {c : List Int} {j : Nat} (h : j < c.length) : c.getD j 0 ∈ c := by
  rw [List.getD_eq_getElem?_getD, List.getElem?_eq_getElem h]
  exact List.getElem_mem _
theorem putPart_at (e : Int) (c t : List Int) (hn : c.Nodup) (h0 : ∀ z ∈ c, 0 ≤ z ∧ z < (t.length : Int)) : ∀ k, k ≤ c.length → ∀ j, j < k →
    (putPart e c t k).getD (c.getD j 0).toNat 0 = if j + 1 < c.length then c.getD (j + 1) 0 else e := by
  intro k
  induction k with
  | zero => intro _ j hj; omega
  | succ k ih =>
    intro hk j hj
    rw [putPart_succ]
    unfold putStep
    by_cases h : j = k
    · subst h
      have hm := h0 _ (getD_mem (c := c) (j := j) (by omega))
      rw [List.getD_eq_getElem?_getD, List.getElem?_set_self (by rw [putPart_length]; omega)]
      rfl
    · have hne : (c.getD k 0).toNat ≠ (c.getD j 0).toNat := fun e => h (by
        have h1 := h0 _ (getD_mem (c := c) (j := j) (by omega))
        have h2 := h0 _ (getD_mem (c := c) (j := k) (by omega))
        exact getD_inj hn (by omega) (by omega) (by omega))
      rw [List.getD_eq_getElem?_getD, List.getElem?_set_ne hne, ← List.getD_eq_getElem?_getD]
      exact ih (by omega) j (by omega)
theorem table_off (e : Int) (cs : List (List Int)) (q : Nat) : ∀ (t : List Int), (∀ c ∈ cs, ∀ z ∈ c, 0 ≤ z) → (q : Int) ∉ cs.flatten → (cs.foldl (putChain e) t).getD q 0 = t.getD q 0 := by
  induction cs with
  | nil => intro t _ _; rfl
  | cons c cs ih =>
    intro t h0 hq
    rw [List.flatten_cons, List.mem_append, not_or] at hq
    rw [List.foldl_cons, ih _ (fun d hd => h0 d (.tail _ hd)) hq.2, putChain_eq]
    exact putPart_off e c t q (h0 c (.head _)) hq.1 _ (Nat.le_refl _)
theorem table_at (e : Int) (cs : List (List Int)) : ∀ (t : List Int), (∀ c ∈ cs, ∀ z ∈ c, 0 ≤ z ∧ z < (t.length : Int)) → cs.flatten.Nodup → ∀ c ∈ cs, ∀ j, j < c.length →
    (cs.foldl (putChain e) t).getD (c.getD j 0).toNat 0 = if j + 1 < c.length then c.getD (j + 1) 0 else e := by
  induction cs with
  | nil => intro t _ _ c hc; exact nomatch hc
  | cons d cs ih =>
    intro t h0 hn c hc j hj
    rw [List.flatten_cons, List.nodup_append] at hn
    rw [List.foldl_cons]
    rcases List.mem_cons.mp hc with rfl | hc
    · have hb := h0 c (.head _) _ (getD_mem hj)
      rw [table_off e cs _ _ (fun d hd z hz => (h0 d (.tail _ hd) z hz).1) ?_, putChain_eq]
      · exact putPart_at e c t hn.1 (h0 c (.head _)) _ (Nat.le_refl _) j hj
      · intro hm
        have e1 : (((c.getD j 0).toNat : Nat) : Int) = c.getD j 0 := by omega
        rw [e1] at hm
        exact hn.2.2 _ (getD_mem hj) _ hm rfl
    · refine ih _ (fun d hd z hz => ?_) hn.2.1 c hc j hj
      rw [putChain_eq, putPart_length]
      exact h0 d (.tail _ hd) z hz
/-- the chains that are out: none empty, all in good places, no place twice -/
structure WF (bs : List Bool) (cs : List (List Int)) : Prop where
  ne : ∀ c ∈ cs, c ≠ []
  rng : ∀ c ∈ cs, ∀ z ∈ c, 2 ≤ z ∧ z < (bs.length : Int) + 2 ∧ bs.getD (z - 2).toNat true = false
  nd : cs.flatten.Nodup
theorem base0_good (kind : Int) (bs : List Bool) (q : Nat) (h2 : 2 ≤ q) (h : q < bs.length + 2) : (base0 kind bs).getD q 0 = if bs.getD (q - 2) true = true then badv kind else 0 := by
  obtain ⟨p, rfl⟩ : ∃ p, q = p + 2 := ⟨q - 2, by omega⟩
  unfold base0
  have e : p + 2 - 2 = p := by omega
  rw [e]
  show (List.map _ bs).getD p 0 = _
  have hp : p < bs.length := by omega
  rw [List.getD_eq_getElem?_getD, List.getD_eq_getElem?_getD, List.getElem?_map, List.getElem?_eq_getElem hp]
  rfl
theorem ends_ne (kind : Int) (hk : Kind kind) : 0 < ends kind ∧ 0 < badv kind := by rcases hk with rfl | rfl | rfl <;> decide
theorem tab_at {kind : Int} {bs : List Bool} {cs : List (List Int)} (W : WF bs cs) {c : List Int} (hc : c ∈ cs) {j : Nat} (hj : j < c.length) :
    (tableOf kind bs cs).getD (c.getD j 0).toNat 0 = if j + 1 < c.length then c.getD (j + 1) 0 else ends kind := by
  unfold tableOf
  refine table_at _ cs _ (fun d hd z hz => ?_) W.nd c hc j hj
  have := W.rng d hd z hz
  rw [base0_length]
  omega
theorem tab_off {kind : Int} {bs : List Bool} {cs : List (List Int)} (W : WF bs cs) {q : Nat} (hq : (q : Int) ∉ cs.flatten) : (tableOf kind bs cs).getD q 0 = (base0 kind bs).getD q 0 := by
  unfold tableOf
  refine table_off _ cs q _ (fun d hd z hz => ?_) hq
  have := W.rng d hd z hz
  omega
theorem mem_at {cs : List (List Int)} {z : Int} (h : z ∈ cs.flatten) : ∃ c ∈ cs, ∃ j, j < c.length ∧ c.getD j 0 = z := by
  obtain ⟨c, hc, hz⟩ := List.mem_flatten.mp h
  obtain ⟨j, hj, e⟩ := List.mem_iff_getElem.mp hz
  exact ⟨c, hc, j, hj, by rw [List.getD_eq_getElem?_getD, List.getElem?_eq_getElem hj]; exact e⟩
theorem tab_pos {kind : Int} {bs : List Bool} {cs : List (List Int)} (hk : Kind kind) (W : WF bs cs) {q : Nat} (hq : (q : Int) ∈ cs.flatten) : (tableOf kind bs cs).getD q 0 ≠ 0 := by
  obtain ⟨c, hc, j, hj, e⟩ := mem_at hq
  have e1 : (c.getD j 0).toNat = q := by omega
  rw [← e1, tab_at W hc hj]
  split
  · rename_i h
    have := W.rng c hc _ (getD_mem h)
    omega
  · have := ends_ne kind hk
    omega
theorem lies_of {kind : Int} {bs : List Bool} {cs : List (List Int)} (W : WF bs cs) {c : List Int} (hc : c ∈ cs) : LiesIn kind (tableOf kind bs cs) c := by
  intro j hj
  have := W.rng c hc _ (getD_mem hj)
  refine ⟨this.1, ?_, tab_at W hc hj⟩
  rw [tableOf_length]
  omega
/-- a place that is free -/
theorem free_at {kind : Int} {bs : List Bool} {cs : List (List Int)} (hk : Kind kind) (W : WF bs cs) {q : Nat} (h2 : 2 ≤ q) (hl : q < bs.length + 2) (h : (tableOf kind bs cs).getD q 0 = 0) : (q : Int) ∉ cs.flatten ∧ bs.getD (q - 2) true = false := by
  have h1 : (q : Int) ∉ cs.flatten := fun hm => tab_pos hk W hm h
  refine ⟨h1, ?_⟩
  rw [tab_off W h1, base0_good kind bs q h2 hl] at h
  have := ends_ne kind hk
  cases hb : bs.getD (q - 2) true with
  | false => rfl
  | true => rw [hb] at h; simp only [if_true] at h; omega
theorem tab_last {kind : Int} {bs : List Bool} {cs : List (List Int)} (hk : Kind kind) (W : WF bs cs) (h0 : 0 < bs.length) (hb : bs.getD (bs.length - 1) true = true) : (tableOf kind bs cs).getD ((tableOf kind bs cs).length - 1) 0 ≠ 0 := by
  rw [tableOf_length]
  have e : bs.length + 2 - 1 = bs.length + 1 := by omega
  rw [e]
  intro h
  have := (free_at hk W (q := bs.length + 1) (by omega) (by omega) h).2
  rw [show bs.length + 1 - 2 = bs.length - 1 by omega, hb] at this
  cases this
/-- nothing is free below ff -/
def FF (fat : List Int) (ff : Int) : Prop := 0 ≤ ff ∧ ff < (fat.length : Int) ∧ ∀ q : Nat, 2 ≤ q → (q : Int) < ff → fat.getD q 0 ≠ 0
theorem scan_ff {fat : List Int} {ff : Nat} (h : ∀ q : Nat, 2 ≤ q → q < ff → fat.getD q 0 ≠ 0) (p : Nat) : scan fat ff p = scan fat 2 p := by
  unfold scan
  congr 1
  refine List.filter_congr fun q _ => ?_
  refine decide_eq_decide.mpr ⟨fun x => ⟨x.2.1, x.2.1, x.2.2⟩, fun x => ⟨?_, x.2.1, x.2.2⟩⟩
  rcases Nat.lt_or_ge q ff with hq | hq
  · exact absurd x.2.2 (h q x.2.1 hq)
  · exact hq
theorem scan_mono {fat : List Int} {a p r : Nat} (h : p ≤ r) {z : Int} (hz : z ∈ scan fat a p) : z ∈ scan fat a r := by
  unfold scan at hz ⊢
  obtain ⟨q, hq, rfl⟩ := List.mem_map.mp hz
  obtain ⟨h1, h2⟩ := List.mem_filter.mp hq
  exact List.mem_map.mpr ⟨q, List.mem_filter.mpr ⟨List.mem_range.mpr (Nat.lt_of_lt_of_le (List.mem_range.mp h1) h), h2⟩, rfl⟩
theorem mem_scan_of {fat : List Int} {a p q : Nat} (h1 : q < p) (h2 : a ≤ q) (h3 : 2 ≤ q) (h4 : fat.getD q 0 = 0) : (q : Int) ∈ scan fat a p := by
  unfold scan
  exact List.mem_map.mpr ⟨q, List.mem_filter.mpr ⟨List.mem_range.mpr h1, decide_eq_true ⟨h2, h3, h4⟩⟩, rfl⟩
theorem put_nil {e : Int} {t : List Int} : putChain e t [] = t := rfl
theorem tab_snoc (kind : Int) (bs : List Bool) (cs : List (List Int)) (c : List Int) : tableOf kind bs (cs ++ [c]) = putChain (ends kind) (tableOf kind bs cs) c := by
  unfold tableOf; rw [List.foldl_append]; rfl
theorem wf_alloc {kind : Int} {bs : List Bool} {cs : List (List Int)} (hk : Kind kind) (W : WF bs cs) {a p : Nat} (hp : p ≤ bs.length + 2) (hne : scan (tableOf kind bs cs) a p ≠ []) : WF bs (cs ++ [scan (tableOf kind bs cs) a p]) := by
  have hz : ∀ z ∈ scan (tableOf kind bs cs) a p, (2 ≤ z ∧ z < (bs.length : Int) + 2 ∧ bs.getD (z - 2).toNat true = false) ∧ z ∉ cs.flatten := by
    intro z hz
    obtain ⟨q, rfl, h1, h2, h3, h4⟩ := mem_scan hz
    obtain ⟨h5, h6⟩ := free_at hk W h3 (by omega) h4
    refine ⟨⟨by omega, by omega, ?_⟩, h5⟩
    rw [show ((q : Int) - 2).toNat = q - 2 by omega]
    exact h6
  refine ⟨fun c hc => ?_, fun c hc z hz' => ?_, ?_⟩
  · rcases List.mem_append.mp hc with hc | hc
    · exact W.ne c hc
    · rw [List.mem_singleton.mp hc]; exact hne
  · rcases List.mem_append.mp hc with hc | hc
    · exact W.rng c hc z hz'
    · rw [List.mem_singleton.mp hc] at hz'; exact (hz z hz').1
  · rw [List.flatten_append, List.nodup_append]
    refine ⟨W.nd, ?_, ?_⟩
    · simp only [List.flatten_cons, List.flatten_nil, List.append_nil]
      exact scan_nodup _ _ _
    · intro x hx y hy e
      simp only [List.flatten_cons, List.flatten_nil, List.append_nil] at hy
      exact (hz y hy).2 (e ▸ hx)
theorem ff_alloc {kind : Int} {bs : List Bool} {cs : List (List Int)} (hk : Kind kind) (W : WF bs cs) {ff p : Nat} (h : FF (tableOf kind bs cs) (ff : Int)) (hp : p < bs.length + 2) :
    FF (putChain (ends kind) (tableOf kind bs cs) (scan (tableOf kind bs cs) ff p)) (p : Int) := by
  have hl : (putChain (ends kind) (tableOf kind bs cs) (scan (tableOf kind bs cs) ff p)).length = bs.length + 2 := by rw [putChain_eq, putPart_length, tableOf_length]
  refine ⟨by omega, by rw [hl]; omega, fun q h2 hq => ?_⟩
  by_cases hm : (q : Int) ∈ scan (tableOf kind bs cs) ff p
  · have W2 := wf_alloc (a := ff) (p := p) hk W (by omega) (fun e => by rw [e] at hm; cases hm)
    rw [← tab_snoc]
    refine tab_pos hk W2 ?_
    rw [List.flatten_append]
    exact List.mem_append_right _ (by simpa using hm)
  · rw [putChain_eq, putPart_off _ _ _ _ (fun z hz => ?_) hm _ (Nat.le_refl _)]
    · intro h0
      rcases Nat.lt_or_ge q ff with hlt | hge
      · exact h.2.2 q h2 (by omega) h0
      · exact hm (mem_scan_of (by omega) hge h2 h0)
    · obtain ⟨q', rfl, _⟩ := mem_scan hz
      omega
theorem flatten_sub {α : Type} {a b : List (List α)} (h : List.Sublist a b) : List.Sublist a.flatten b.flatten := by
  induction h with
  | slnil => exact List.Sublist.refl _
  | cons x _ ih => rw [List.flatten_cons]; exact ih.trans (List.sublist_append_right _ _)
  | cons_cons x _ ih => rw [List.flatten_cons, List.flatten_cons]; exact List.Sublist.append (List.Sublist.refl _) ih
theorem wf_sub {bs : List Bool} {cs ds : List (List Int)} (W : WF bs cs) (h : List.Sublist ds cs) : WF bs ds :=
  ⟨fun c hc => W.ne c (h.subset hc), fun c hc => W.rng c (h.subset hc), W.nd.sublist (flatten_sub h)⟩
theorem drop_sub {α : Type} (cs : List α) (i : Nat) : List.Sublist (cs.take i ++ cs.drop (i + 1)) cs := by
  conv => rhs; rw [← List.take_append_drop i cs]
  exact List.Sublist.append (List.Sublist.refl _) (List.drop_sublist_drop_left cs (Nat.le_succ i))
theorem freed_off (c : List Int) (q : Nat) : ∀ t : List Int, (∀ z ∈ c, 0 ≤ z) → (q : Int) ∉ c → (freed t c).getD q 0 = t.getD q 0 := by
  induction c with
  | nil => intro t _ _; rfl
  | cons d c ih =>
    intro t h0 hq
    rw [List.mem_cons, not_or] at hq
    have hd := h0 d (.head _)
    show (freed (t.set d.toNat 0) c).getD q 0 = _
    rw [ih _ (fun z hz => h0 z (.tail _ hz)) hq.2, List.getD_eq_getElem?_getD, List.getElem?_set_ne (by omega), ← List.getD_eq_getElem?_getD]
theorem freed_at (c : List Int) (q : Nat) : ∀ t : List Int, (∀ z ∈ c, 0 ≤ z) → (q : Int) ∈ c → (freed t c).getD q 0 = 0 := by
  induction c with
  | nil => intro t _ h; exact nomatch h
  | cons d c ih =>
    intro t h0 hq
    show (freed (t.set d.toNat 0) c).getD q 0 = 0
    by_cases hc : (q : Int) ∈ c
    · exact ih _ (fun z hz => h0 z (.tail _ hz)) hc
    · rw [freed_off c q _ (fun z hz => h0 z (.tail _ hz)) hc]
      rcases List.mem_cons.mp hq with e | hq
      · rw [← e, show ((q : Int)).toNat = q by omega, List.getD_eq_getElem?_getD]
        by_cases hl : q < t.length
        · rw [List.getElem?_set_self hl]; rfl
        · rw [List.getElem?_eq_none (by simp; omega)]; rfl
      · exact absurd hq hc
theorem getD_ext {a b : List Int} (hl : a.length = b.length) (h : ∀ q, q < a.length → a.getD q 0 = b.getD q 0) : a = b := by
  refine List.ext_getElem hl fun q h1 h2 => ?_
  have := h q h1
  rwa [List.getD_eq_getElem?_getD, List.getD_eq_getElem?_getD, List.getElem?_eq_getElem h1, List.getElem?_eq_getElem h2] at this
theorem split_at {α : Type} {cs : List α} {i : Nat} {c : α} (h : cs[i]? = some c) : cs = cs.take i ++ c :: cs.drop (i + 1) := by
  obtain ⟨hi, e⟩ := List.getElem?_eq_some_iff.mp h
  conv => lhs; rw [← List.take_append_drop i cs]
  rw [List.drop_eq_getElem_cons hi, e]
theorem free_table {kind : Int} {bs : List Bool} {cs : List (List Int)} (W : WF bs cs) {i : Nat} {c : List Int} (hc : cs[i]? = some c) :
    freed (tableOf kind bs cs) c = tableOf kind bs (cs.take i ++ cs.drop (i + 1)) := by
  have W2 := wf_sub W (drop_sub cs i)
  have hm := List.mem_of_getElem? hc
  have hsp := split_at hc
  have hnd := W.nd
  rw [hsp, List.flatten_append, List.flatten_cons] at hnd
  have hout : ∀ z ∈ c, z ∉ (cs.take i ++ cs.drop (i + 1)).flatten := by
    intro z hz hz2
    rw [List.flatten_append, List.mem_append] at hz2
    rw [List.nodup_append] at hnd
    rcases hz2 with h | h
    · exact hnd.2.2 z h z (List.mem_append_left _ hz) rfl
    · exact (List.nodup_append.mp hnd.2.1).2.2 z hz z h rfl
  have h0 : ∀ z ∈ c, 0 ≤ z := fun z hz => by have := W.rng c hm z hz; omega
  refine getD_ext (by rw [freed_length, tableOf_length, tableOf_length]) fun q hq => ?_
  rw [freed_length, tableOf_length] at hq
  by_cases hqc : (q : Int) ∈ c
  · rw [freed_at c q _ h0 hqc, tab_off W2 (hout _ hqc)]
    obtain ⟨h2, h3, h4⟩ := W.rng c hm _ hqc
    rw [base0_good kind bs q (by omega) hq, show q - 2 = ((q : Int) - 2).toNat by omega, h4]
    rfl
  · rw [freed_off c q _ h0 hqc]
    by_cases hqr : (q : Int) ∈ (cs.take i ++ cs.drop (i + 1)).flatten
    · obtain ⟨d, hd, j, hj, e⟩ := mem_at hqr
      have e1 : (d.getD j 0).toNat = q := by omega
      rw [← e1, tab_at W2 hd hj, tab_at W ((drop_sub cs i).subset hd) hj]
    · rw [tab_off W2 hqr, tab_off W]
      intro hq2
      rw [hsp, List.flatten_append, List.flatten_cons, List.mem_append, List.mem_append] at hq2
      rw [List.flatten_append, List.mem_append, not_or] at hqr
      rcases hq2 with h | h | h
      · exact hqr.1 h
      · exact hqc h
      · exact hqr.2 h
theorem minOf_le (c : List Int) : ∀ p : Int, minOf p c ≤ p ∧ (∀ z ∈ c, minOf p c ≤ z) := by
  induction c with
  | nil => intro p; exact ⟨Int.le_refl _, fun z hz => nomatch hz⟩
  | cons d c ih =>
    intro p
    have := ih (if p < d then p else d)
    have e : minOf p (d :: c) = minOf (if p < d then p else d) c := rfl
    rw [e]
    refine ⟨Int.le_trans this.1 (by split <;> omega), fun z hz => ?_⟩
    rcases List.mem_cons.mp hz with rfl | hz
    · exact Int.le_trans this.1 (by split <;> omega)
    · exact this.2 z hz
theorem minOf_nonneg (c : List Int) : ∀ p : Int, 0 ≤ p → (∀ z ∈ c, 0 ≤ z) → 0 ≤ minOf p c := by
  induction c with
  | nil => intro p h _; exact h
  | cons d c ih =>
    intro p h h0
    show 0 ≤ minOf (if p < d then p else d) c
    refine ih _ ?_ (fun z hz => h0 z (.tail _ hz))
    have := h0 d (.head _)
    split <;> omega
theorem ff_free {kind : Int} {bs : List Bool} {cs : List (List Int)} (W : WF bs cs) {i : Nat} {c : List Int} (hc : cs[i]? = some c) {ff : Int} (h : FF (tableOf kind bs cs) ff) :
    FF (tableOf kind bs (cs.take i ++ cs.drop (i + 1))) (minOf ff c) := by
  have hm := List.mem_of_getElem? hc
  have h0 : ∀ z ∈ c, 0 ≤ z := fun z hz => by have := W.rng c hm z hz; omega
  have hl := minOf_le c ff
  obtain ⟨h1, h2, h3⟩ := h
  rw [tableOf_length] at h2
  refine ⟨minOf_nonneg c ff h1 h0, by rw [tableOf_length]; omega, fun q hq2 hq => ?_⟩
  rw [← free_table W hc]
  rw [freed_off c q _ h0 (fun hm => by have := hl.2 _ hm; omega)]
  exact h3 q hq2 (by omega)
theorem due_eq {wanted size : Int} (hs : 1 ≤ size) : (wanted + size - 1).fdiv size = numOf wanted size := by
  unfold numOf
  rw [Int.fdiv_eq_ediv_of_nonneg _ (by omega), Int.fdiv_eq_ediv_of_nonneg _ (by omega)]
  have h1 := Int.mul_ediv_add_emod (wanted + size - 1) size
  have h2 := Int.emod_nonneg (wanted + size - 1) (show size ≠ 0 by omega)
  have h3 := Int.emod_lt_of_pos (wanted + size - 1) (show 0 < size by omega)
  generalize (wanted + size - 1) / size = q at *
  generalize (wanted + size - 1) % size = r at *
  have : (-wanted) / size = -q := by
    have e : -wanted = (size - 1 - r) + size * (-q) := by rw [Int.mul_neg]; omega
    rw [e, Int.add_mul_ediv_left _ _ (by omega), Int.ediv_eq_zero_of_lt (by omega) (by omega)]
    omega
  omega
end
section
theorem rst_G7 : True := by w_top off; trivial
section
variable {M : Model} {A A' : Around} {R : GenEnd} {Y : Protocol} {n : Nat} {s₀ s : Shared} {c c1 : Code} {base h0 : Heap} {envG : Env} {outer : List Env} {Lg e : Addr} {v : Value} {k : Result → Sem Fin} {p1 : Pos}
/-- an exception noted in a while loop of a generator's frame leaves the generator -/
theorem brokenEnd {K1 : Flow → Sem Fin} (hA : A.over c [.ret k none (id false) (id []) c1 p1 []] = A') (hA1 : A.over c1 [] = A') (hfA : A'.frames = some (envG :: outer)) (hfG : envG.frame = some Lg)
    (hFF : s.heap.FunFrames base (envG :: outer)) (hx : ExcO s.heap e v) (hk : Kept Lg h0 s.heap) (he0 : h0.get? e = none)
    (hkk : k (.error (.ref e)) = Sem.wrap K1 (fun x => Sem.wrap (fun _ => Sem.raise x) Sem.raise id id (leaving envG x)) id id ((Sem.raise (.ref e) : Sem Flow).onRaise fun x => do
      if (← field x 1) == .none then unsupported "frame.own-activation:exception-without-traceback"
      setFlight x envG.frame))
    (hR : ∀ h', FlownG h0 Lg (frA (envG :: outer)) outer e v h' → R n s₀ (.error (.ref e)) { s with heap := h' }) :
    Seg M A R Y n s₀ c (Sem.wrap (fun _ => Sem.raise (.ref e)) Sem.raise id id (do noteFrame (.ref e) envG; theTreesLotGoes (.ref e))) [.ret k none (id false) (id []) c1 p1 []] s := by
  refine seg_wrap ?_
  rw [hA]
  refine wpAny_bind (noteG hfA hfG hFF hx hk he0 fun h₁ D B I₁ => wpAny_theTreesLotGoes ?_)
  refine seg_leaf (.error (.ref e)) ?_
  rw [hkk]
  refine seg_wrap ?_
  rw [hA1]
  refine wpAny_onRaise ?_
  show wpAny M A' (throw (.ref e)) _ _ _
  refine wpAny_throw ?_
  obtain ⟨oe, vs, T, oT, ts, he, hc, hD, hd, h1, r⟩ := id I₁.tr
  refine wpAny_bind (wpAny_field he hd h1 ?_)
  rw [if_neg (show ¬ (Value.ref T == Value.none) = true from by simp)]
  try refine wpAny_bind (wpAny_pure ?_)
  refine flightG (s := { s with heap := h₁ }) I₁ fun h₂ I₂ => ?_
  rw [hfG] at I₂
  refine seg_wrap ?_
  rw [hA1]
  unfold leaving
  refine wpAny_bind (againG hfG I₂ ?_)
  refine flightG (s := { s with heap := h₂ }) I₂ fun h₃ I₃ => ?_
  refine seg_end (.error (.ref e)) (hR h₃ (leftG hfG I₃))
end
end
section
theorem rst_G8 : True := by w_top off; trivial
/-- a generator that only ends by an exception -/
abbrev GX (X : Nat → Shared → Addr → Shared → Prop) : GenEnd := fun n s₀ r s₁ => ∃ e, r = .error (.ref e) ∧ X n s₀ e s₁
section
variable {prog : Program} {w : World} {A : Around} {s : Shared} {env : Env} {h₀ : Heap} {x : Str} {px : Pos} {body : List Stmt} {R : Result → Shared → Prop}
theorem gen_loopB {X : Nat → Shared → Addr → Shared → Prop} {Ga Lg : Addr} {gi : Nat} {oG oL₀ : Obj} {Pre : Obj → Heap → Prop} {vals : List Int} {gst₀ : GenState} {m₀ : Str → Option Value} {news : List (Addr × Obj)} (J : Nat → (Str → Option Value) → List (Addr × Obj) → Prop)
    (hx : env.kindOf x = some .local) (hp : (env.scope.kind == .class || (env.scope.kind == .module && env.locals != env.globals)) = false)
    (hh : A.handled = none) (hlim : h₀.NoLimit) (hroom : A.depth < recursionLimit) (hG : GenO oG gi) (hGL : Ga ≠ Lg)
    (hpre : ∀ i m₁ news₁ h oL, J i m₁ news₁ → Fr h₀ env.locals h m₁ → News h₀ env.locals h ((Ga, oG) :: (Lg, oL) :: news₁) → Pre oL h)
    (hb : AllBare s.gens) (hgs : s.gens[gi]? = some gst₀) (hgo : ∀ s'' : Shared, Pre oL₀ s''.heap → gst₀.Goes (model prog w) A.in1 (GX X) (GY Lg Pre vals) vals.length (.send .none) s'')
    (F : Fr h₀ env.locals s.heap m₀) (N : News h₀ env.locals s.heap ((Ga, oG) :: (Lg, oL₀) :: news)) (hoff : ∀ p ∈ news, p.1 ≠ Ga ∧ p.1 ≠ Lg) (hj : J 0 m₀ news)
    (hX : ∀ i m₁ news₁ h tk gens' oL e s₁, J i m₁ news₁ → (∀ p ∈ news₁, p.1 ≠ Ga ∧ p.1 ≠ Lg) → Fr h₀ env.locals h m₁ → News h₀ env.locals h ((Ga, oG) :: (Lg, oL) :: news₁) → AllBare gens' → X (vals.length - i) ({ s with heap := h, toks := tk, gens := gens' }.setGen gi .running) e s₁ →
      s₁.heap.IsGen Ga gi ∧ NotStop prog w s₁.heap e ∧ notedBy (model prog w) A env (fun e s' => R (.error e) s') (.ref e) (s₁.setGen gi .finished))
    (turn : ∀ i t c m₁ news₁ h tk gens' oL m₂, AllBare gens' → vals[i]? = some c → (∀ p ∈ news₁, p.1 ≠ Ga ∧ p.1 ≠ Lg) → J i m₁ news₁ → m₂ x = some (.int c t) → (∀ y, y ≠ x → m₂ y = m₁ y) → Fr h₀ env.locals h m₂ → News h₀ env.locals h ((Ga, oG) :: (Lg, oL) :: news₁) →
      wpAny (model prog w) A (execs body env) (GTurnP h₀ env.locals Ga oG Lg oL (J (i + 1)) { s with heap := h, toks := tk, gens := gens' } R) (notedBy (model prog w) A env fun e s' => R (.error e) s') { s with heap := h, toks := tk, gens := gens' }) :
    codeAny (model prog w) A (.forLoop (.Name x px) (.ref Ga) body [] env) R s := by
  have hLne : Lg ≠ env.locals := (N _ (.tail _ (.head _))).2.1
  refine codeAny_forLoop (fun k s' => ∃ h' tk gens' m' news' oL gst i, s' = { s with heap := h', toks := tk, gens := gens' } ∧ AllBare gens' ∧ Fr h₀ env.locals h' m' ∧ News h₀ env.locals h' ((Ga, oG) :: (Lg, oL) :: news') ∧ (∀ p ∈ news', p.1 ≠ Ga ∧ p.1 ≠ Lg) ∧ J i m' news' ∧ gens'[gi]? = some gst ∧
      (∀ s'' : Shared, Pre oL s''.heap → gst.Goes (model prog w) A.in1 (GX X) (GY Lg Pre vals) (vals.length - i) (.send .none) s'') ∧ i ≤ vals.length ∧ k = vals.length + 1 - i) ?_ (vals.length + 1)
    ⟨s.heap, s.toks, s.gens, m₀, news, oL₀, gst₀, 0, rfl, hb, F, N, hoff, hj, hgs, hgo, Nat.zero_le _, rfl⟩
  rintro k s' ⟨h', tk, gens', m', news', oL, gst, i, rfl, hbg, F', N', ho', hJ, hgs', hgo', hi, rfl⟩
  have hPre := hpre i m' news' h' oL hJ F' N'
  have keepF : ∀ h₁, Kept Lg h' h₁ → Fr h₀ env.locals h₁ m' := fun h₁ hk =>
    ⟨F'.ns.at' fun o e => hk _ o hLne.symm e, fun b o e => hk b o (fun q => by have := (N' _ (.tail _ (.head _))).2.2; rw [q] at e; rw [this] at e; cases e) (F'.keep b o e), F'.above⟩
  have keepN : ∀ h₁ o', Kept Lg h' h₁ → h₁.get? Lg = some o' → News h₀ env.locals h₁ ((Ga, oG) :: (Lg, o') :: news') := fun h₁ o' hk e p hp => by
    rcases List.mem_cons.mp hp with rfl | hp
    · exact ⟨hk _ _ hGL (N' _ (.head _)).1, (N' _ (.head _)).2⟩
    · rcases List.mem_cons.mp hp with rfl | hp
      · exact ⟨e, (N' _ (.tail _ (.head _))).2⟩
      · exact ⟨hk _ _ (ho' p hp).2 (N' _ (.tail _ (.tail _ hp))).1, (N' _ (.tail _ (.tail _ hp))).2⟩
  have hgiN : gi < gens'.size := (Array.getElem?_eq_some_iff.mp hgs').1
  refine next_my (R := GX X) (Y := GY Lg Pre vals) (n := vals.length - i) (g := gi) hh (hlim.keeps F'.keep) hroom (hG.is (N' _ (.head _)).1) hgs' (hgo' _ hPre) ?_ ?_
  · rintro v s₁ gs' hbs ⟨t, oL', h₁, tk₁, c, hlt, hc, rfl, rfl, hk, hL, hP1, hnext⟩
    cases hn : vals.length - i with
    | zero =>
      rw [hn] at hnext
      exact (hnext { s with heap := h₁ } hP1).elim
    | succ r =>
      rw [hn] at hnext hlt hc
      have hci : vals[i]? = some c := by
        have e : vals.length - 1 - (r + 1 - 1) = i := by omega
        rw [e] at hc
        exact hc
      have F₁ := keepF h₁ hk
      have N₁ := keepN h₁ oL' hk hL
      refine wpAny_assign_Name (wpAny_storeName_local hx F₁.ns (fun h₂ hn₂ hs₂ => ?_) hp)
      have F₂ := F₁.set hn₂ hs₂
      have N₂ := N₁.set hs₂
      have hb2 : AllBare ((gens'.setIfInBounds gi .running).setIfInBounds gi gs') := bare_set (bare_set hbg rfl) hbs
      refine wpAny_mono (turn i t c m' news' h₂ _ _ oL' _ hb2 hci ho' hJ (by simp) (fun y hy => by simp [hy]) F₂ N₂) (fun f s₃ p => ?_) fun _ _ e => e
      have fin : ∀ s₃, GTurnE h₀ env.locals Ga oG Lg oL' (J (i + 1)) { s with heap := h₂, toks := tk₁ + 1, gens := (gens'.setIfInBounds gi .running).setIfInBounds gi gs' } s₃ →
          ∃ q, q < vals.length + 1 - i ∧ ∃ h' tk gens' m' news' oL gst i, s₃ = { s with heap := h', toks := tk, gens := gens' } ∧ AllBare gens' ∧ Fr h₀ env.locals h' m' ∧ News h₀ env.locals h' ((Ga, oG) :: (Lg, oL) :: news') ∧ (∀ p ∈ news', p.1 ≠ Ga ∧ p.1 ≠ Lg) ∧ J i m' news' ∧ gens'[gi]? = some gst ∧
            (∀ s'' : Shared, Pre oL s''.heap → gst.Goes (model prog w) A.in1 (GX X) (GY Lg Pre vals) (vals.length - i) (.send .none) s'') ∧ i ≤ vals.length ∧ q = vals.length + 1 - i := by
        rintro s₃ ⟨h₄, tk₄, m₄, nx, e, F₄, N₄, ho₄, hJ₄⟩
        refine ⟨vals.length + 1 - (i + 1), by omega, h₄, tk₄, _, m₄, nx, oL', gs', i + 1, e, hb2, F₄, N₄, ho₄, hJ₄, by simp [hgiN], ?_, by omega, rfl⟩
        intro s'' hP''
        have e2 : vals.length - (i + 1) = r := by omega
        rw [e2]
        exact hnext s'' hP''
      cases f with
      | ret v => exact p
      | brk => exact p
      | next => exact fin _ p
      | cont => exact fin _ p
  · rintro r s₁ ⟨e, rfl, hx9⟩
    exact .inr ⟨e, rfl, hX i m' news' h' tk gens' oL e s₁ hJ ho' F' N' hbg hx9⟩
end
end
section
theorem rst_G6 : True := by w_top off; trivial
theorem hex1 {prog : Program} {w : World} {A : Around} {E : Value → Shared → Prop} {s : Shared} {i : Int} {t : Tok} {Q : Value → Shared → Prop} (hi : i = 1) (h : Q (.str (Str.ofString "0x1") s.toks) { s with toks := s.toks + 1 }) :
    wpAny (model prog w) A (call (.builtin "hex") [.int i t]) Q E s := by
  subst hi
  refine P.hex_of_int ?_
  first
    | (rw [show PySem.P.baseText "0x" 16 1 = Str.ofString "0x1" from by first | rfl | decide +kernel]; exact h)
    | (rw [show PySem.baseText "0x" 16 1 = Str.ofString "0x1" from by first | rfl | decide +kernel]; exact h)
    | (rw [show PySem.Builtin.baseText "0x" 16 1 = Str.ofString "0x1" from by first | rfl | decide +kernel]; exact h)
local macro_rules | `(tactic| walk_at "call builtin:hex") => `(tactic| (k_here; (with_reducible show wpAny _ _ (call (Value.builtin "hex") [Value.int _ _]) _ _ _); refine hex1 (by assumption) ?_))
/-- what the generator on a broken chain needs of a heap to go on -/
def BPre (base h₀ : Heap) (fr : List Env) (V dV lf Lg : Addr) (P : Params) (k : Nat → Tok) (v : Nat → Value) (bpc kind ro : Value) (nd nf : Nat) (fvs : List Value) (oL : Obj) (h : Heap) : Prop :=
  GPre h₀ V dV lf Lg P k v bpc kind ro nd nf fvs oL h ∧ h.FunFrames base fr
/-- the way the broken chain's generator raises -/
def BX (Lg : Addr) (fs : List Addr) (l : List Env) : Nat → Shared → Addr → Shared → Prop := fun n s₀ e s₁ => n = 0 ∧ ∃ h' tk', s₁ = { s₀ with heap := h', toks := tk' } ∧ FlownG s₀.heap Lg fs l e .none h'
theorem funFrames_on {base h h' : Heap} : ∀ {l : List Env}, (∀ b ∈ frA l, ∀ o, h.get? b = some o → h'.get? b = some o) → h.FunFrames base l → h'.FunFrames base l
  | [], _, _ => trivial
  | en :: r, k, ⟨hk, ⟨L, o, hf, hn, ho, hd⟩, hr⟩ => ⟨hk, ⟨L, o, hf, hn, k L (List.mem_filterMap.mpr ⟨en, .head _, hf⟩) o ho, hd⟩, funFrames_on (fun b hb o e => k b (by
      obtain ⟨en', he', hb'⟩ := List.mem_filterMap.mp hb
      exact List.mem_filterMap.mpr ⟨en', .tail _ he', hb'⟩) o e) hr⟩
set_option linter.all false in
theorem gen_broken (w : World) (mean : ExcName → Option Value) (mg mb : Str → Option Value) (news : List (Addr × Obj)) (V dV lf : Addr) (nd nf : Nat) (k : Nat → Tok) (v : Nat → Value) (bpc ffc ro : Value) (kind x : Int) (t3 tc : Tok) (fat : List Int) (fvs : List Value) 
   (dp un : Nat) (gd : Option (List Code)) (env : Env) (outer : List Env) (A₀ : Around) (base h₀ : Heap) (L : Addr) (m : Str → Option Value) (s : Shared) (R : Result → Shared → Prop)
    (B : Below A₀ base outer h₀) (F : Fr h₀ L s.heap m) (X : (Mine.hd.heap_1 w.params).In h₀) (N : News h₀ L s.heap news) (T : Top Mine.hd.view_39 (looseW Mine.hd.view_39 [Str.ofString "PyFATException", Str.ofString "errno", Str.ofString "PyFat"]) mean mg mb h₀)
    (hV : (V, instObj 316 dV) ∈ news) (hdV : (dV, dictOf (volEs w.params k v bpc ffc (.int kind t3) (.ref lf) (.bool true) ro) nd) ∈ news) (hlf : (lf, listOf fvs.toArray nf) ∈ news)
    (hfat : IntsAre fvs fat) (hk : Kind kind) (hlen : 4 ≤ fat.length ∧ fat.length ≤ 60) (hf3 : fat.getD 3 0 = 2) (hf2 : fat.getD 2 0 = x) (hx : x = 0 ∨ x = badv kind ∨ x = 1)
    (hfr : env.frame = some L) (hdp : dp + 8 < recursionLimit) (hun : un + 60 < cLine)
    (hret : ∀ Lg Ga oL oG gst h₁ tk fs, Fr h₀ L h₁ m → News h₀ L h₁ ((Ga, oG) :: (Lg, oL) :: news) → GenO oG s.gens.size → @LT.lt Nat _ Lg Ga → @LT.lt Nat _ L Lg → (∀ p ∈ news, p.1 < Lg) → gst.bare = true → fs = Lg :: frA (env :: outer) →
      (∀ s'' : Shared, BPre base h₀ (env :: outer) V dV lf Lg w.params k v bpc (.int kind t3) ro nd nf fvs oL s''.heap → gst.Goes (model PySem.Challenge.rw_jr0029_01.row.prog w) (arTop dp un gd env outer).in1 (GX (BX Lg fs (env :: outer))) (GY Lg (BPre base h₀ (env :: outer) V dV lf Lg w.params k v bpc (.int kind t3) ro nd nf fvs) [3]) 1 (.send .none) s'') →
      R (.ok (.ret (.ref Ga))) { s with heap := h₁, toks := tk, gens := s.gens.push gst }) :
    codeAny (model PySem.Challenge.rw_jr0029_01.row.prog w) (arTop dp un gd env outer) (.call (.ref 292) ⟨[.ref V, .int 3 tc], []⟩) R s := by
  k_dflt (refine' gen_make ?k1 ?k2 ?k3 ?k4 ?k5 ?k6 ?hroom ?k7 ?k8 ?_ ?c1 ?c2 ?c3 ?c4)
  case k1 => exact F
  case k2 => exact X
  case k3 => exact N
  case k4 => exact T.nolimit
  case k5 => k_is
  case k6 => k_is
  case hroom => exact Nat.lt_of_le_of_lt (Nat.le_add_right dp 8) hdp
  case k7 => exact BindsTo.of_eq rfl
  case k8 => exact locs rfl
  case c1 => exact rfl
  case c2 => exact rfl
  case c3 => exact rfl
  case c4 => decide
  intro Lg Ga oL oG h₁ tk F₁ N₁ hON hGO hLG hLL hlt hab
  refine hret Lg Ga oL oG _ h₁ tk _ F₁ N₁ hGO hLG hLL hlt rfl rfl ?_
  have neV : V ≠ Lg := Nat.ne_of_lt (hlt _ hV)
  have nedV : dV ≠ Lg := Nat.ne_of_lt (hlt _ hdV)
  have nelf : lf ≠ Lg := Nat.ne_of_lt (hlt _ hlf)
  have fV := (N _ hV).2.2
  have fdV := (N _ hdV).2.2
  have flf := (N _ hlf).2.2
  have start : ∀ (oL' : Obj) (h : Heap) (mm : Str → Option Value), GPre h₀ V dV lf Lg w.params k v bpc (.int kind t3) ro nd nf fvs oL' h → ONs oL' mm → Fr h₀ Lg h mm ∧ ∃ ffc rest, News h₀ Lg h ((V, instObj 316 dV) :: (dV, dictOf (volEs w.params k v bpc ffc (.int kind t3) (.ref lf) (.bool true) ro) nd) :: (lf, PySem.W.listOf fvs.toArray nf) :: rest) ∧ (∀ h' mm', Fr h₀ Lg h' mm' → News h₀ Lg h' ((V, instObj 316 dV) :: (dV, dictOf (volEs w.params k v bpc ffc (.int kind t3) (.ref lf) (.bool true) ro) nd) :: (lf, PySem.W.listOf fvs.toArray nf) :: rest) → Kept Lg h h') ∧ (∀ b o, h.get? b = some o → b ≠ Lg → h₀.get? b = none → (b, o) ∈ rest) := by
    rintro oL' h mm ⟨p1, p2, p3, p4, ffc, p5⟩ hO
    obtain ⟨rest, r1, r2⟩ := all_news (h₀ := h₀) (h := h) (Lg := Lg)
    refine ⟨⟨hO.ns p2, p1, hab⟩, ffc, rest, fun p hp => ?_, fun h' mm' F' N' => kept_of (pre := [(V, instObj 316 dV), (dV, dictOf (volEs w.params k v bpc ffc (.int kind t3) (.ref lf) (.bool true) ro) nd), (lf, PySem.W.listOf fvs.toArray nf)]) ⟨hO.ns p2, p1, hab⟩ r2 F' N', r2⟩
    rcases List.mem_cons.mp hp with rfl | hp
    · exact ⟨p3, neV, fV⟩
    · rcases List.mem_cons.mp hp with rfl | hp
      · exact ⟨p5, nedV, fdV⟩
      · rcases List.mem_cons.mp hp with rfl | hp
        · exact ⟨p4, nelf, flf⟩
        · exact r1 p hp
  rintro s'' ⟨hPre, hFF0⟩
  refine ⟨rfl, ?_⟩
  refine seg_func ?_
  refine seg_execs_cons (seg_stmt (over_func ..) ?_)
  obtain ⟨F2, ffc2, rest, N2, hr2, _⟩ := start oL s''.heap _ hPre hON
  (repeat' ((fail_if_success (with_reducible show wpAny _ _ (pyIter (Value.ref _)) _ _ _)); (first | (k_unfold; (try dsimp only)) | (k_end; wrow_close) | walk1 | (dsimp only; walk1) | ((dsimp only [List.nil_append, List.cons_append]); walk1) | (leave1; (try dsimp only)) | fail "no step")))
  refine init_ok w mean mg mb _ V dV nd k v bpc ffc2 (.int kind t3) (.ref lf) ro _ h₀ Lg _ _ _ _ F2 X N2 T (.head _) (.tail _ (.head _)) ?_ ?_
  · exact Nat.lt_of_le_of_lt (by show dp + 1 ≤ dp + 8; omega) hdp
  intro h' tk' F3 N3
  have hmax : 4079 ≤ maxv kind := by rcases hk with rfl | rfl | rfl <;> decide
  have heoc : maxv kind < badv kind ∧ badv kind < eocMin kind ∧ badv kind ≠ 4080 := by rcases hk with rfl | rfl | rfl <;> decide
  have hfl := hfat.length
  have mk : ∀ (h : Heap) (mm : Str → Option Value) (ffc : Value) (rest : List (Addr × Obj)), Fr h₀ Lg h mm → News h₀ Lg h ((V, instObj 316 dV) :: (dV, dictOf (volEs w.params k v bpc ffc (.int kind t3) (.ref lf) (.bool true) ro) nd) :: (lf, PySem.W.listOf fvs.toArray nf) :: rest) → ∃ oL', ONs oL' mm ∧ GPre h₀ V dV lf Lg w.params k v bpc (.int kind t3) ro nd nf fvs oL' h := by
    intro h mm ffc rest F N
    obtain ⟨oL', ho', hO'⟩ := ONs.of F.ns
    exact ⟨oL', hO', F.keep, ho', (N _ (.head _)).1, (N _ (.tail _ (.tail _ (.head _)))).1, ffc, (N _ (.tail _ (.head _))).1⟩
  iterate 6 (refine seg_execs_cons (seg_stmt (over_func ..) ?_); (repeat' ((fail_if_success (with_reducible show wpAny _ _ (pyIter (Value.ref _)) _ _ _)); (first | (k_unfold; (try dsimp only)) | (k_end; wrow_close) | walk1 | (dsimp only; walk1) | ((dsimp only [List.nil_append, List.cons_append]); walk1) | (leave1; (try dsimp only)) | fail "no step"))))
  rename Fr _ _ _ _ => F4
  rename News _ _ _ _ => N4
  have hk4 := hr2 _ _ F4 N4
  obtain ⟨oL4, hO4, hP4⟩ := mk _ _ _ _ F4 N4
  have hLgf : Lg ∉ frA (env :: outer) := by
    intro hm
    obtain ⟨en, hen, hb⟩ := List.mem_filterMap.mp hm
    rcases List.mem_cons.mp hen with rfl | hen
    · rw [hfr] at hb
      cases hb
      exact Nat.lt_irrefl _ hLL
    · obtain ⟨_, o, ho, _⟩ := B.frames.mem (List.mem_filterMap.mpr ⟨en, hen, hb⟩)
      exact absurd (Nat.lt_of_lt_of_le (Heap.lt_size ho) hab) (Nat.lt_irrefl _)
  have ffk : ∀ {h h' : Heap}, Kept Lg h h' → h.FunFrames base (env :: outer) → h'.FunFrames base (env :: outer) := by
    intro h h' hk hF
    exact funFrames_on (l := env :: outer) (fun b hb o e => hk b o (fun z => hLgf (z ▸ hb)) e) hF
  have hf3' : fat.getD (Int.toNat 3) 0 = 2 := hf3
  have hf2' : fat.getD (Int.toNat 2) 0 = x := hf2
  refine seg_execs_cons (seg_While fun pw => ?_)
  have hFF4 := ffk hk4 hFF0
  (try clear hr2); (try clear N4); (try clear N₁); (try clear F₁)
  refine (?key : ∀ (s₀ : Shared) (h : Heap) (tk : Nat) (mm : Str → Option Value) (oL' : Obj) (t1 t2 t4 t5 t6 : Tok), Kept Lg s₀.heap h → GPre h₀ V dV lf Lg w.params k v bpc (.int kind t3) ro nd nf fvs oL' h → h.FunFrames base (env :: outer) → ONs oL' mm →
    mm (Str.ofString "self") = some (.ref V) → mm (Str.ofString "cluster_vals") = some (.ref (fcvA kind)) → mm (Str.ofString "min_data_cluster") = some (.int 2 t1) → mm (Str.ofString "max_data_cluster") = some (.int (maxv kind) t2) → mm (Str.ofString "eoc_min") = some (.int (eocMin kind) t4) → mm (Str.ofString "eoc_max") = some (.int (ends kind) t5) → mm (Str.ofString "i") = some (.int 3 t6) →
    Seg (model PySem.Challenge.rw_jr0029_01.row.prog w) (arTop dp un gd env outer).in1 (GX (BX Lg (Lg :: frA (env :: outer)) (env :: outer))) (GY Lg (BPre base h₀ (env :: outer) V dV lf Lg w.params k v bpc (.int kind t3) ro nd nf fvs) [3]) 1 s₀ _ _ _ { s₀ with heap := h, toks := tk })
    s'' _ _ _ oL4 _ _ _ _ _ hk4 hP4 hFF4 hO4 rfl rfl rfl rfl rfl rfl rfl
  (try clear hk4); (try clear hP4); (try clear hO4); (try clear F4); (try clear hPre); (try clear hret); (try clear hFF4)
  intro s₀ h tk mm oL' t1 t2 t4 t5 t6 hkp hP hFF hO n1 n2 n3 n4 n5 n6 n7
  obtain ⟨F, ffc, rest, N, hr, _⟩ := start oL' h mm hP hO
  refine seg_whileLoop ?_
  refine (?q : wpAny _ ((arTop dp (un + 1) gd env outer).deeper _) _ _ _ _)
  (repeat' ((fail_if_success (with_reducible show wpAny _ _ (pyIter (Value.ref _)) _ _ _)); (first | (k_unfold; (try dsimp only)) | (k_end; wrow_close) | walk1 | (dsimp only; walk1) | ((dsimp only [List.nil_append, List.cons_append]); walk1) | (leave1; (try dsimp only)) | fail "no step")))
  refine seg_execs_cons (seg_If (A' := (arTop dp (un + 1) gd env outer).deeper _) rfl ?_)
  (repeat' ((fail_if_success (with_reducible show wpAny _ _ (pyIter (Value.ref _)) _ _ _)); (first | (k_unfold; (try dsimp only)) | (k_end; wrow_close) | walk1 | (dsimp only; walk1) | ((dsimp only [List.nil_append, List.cons_append]); walk1) | (leave1; (try dsimp only)) | fail "no step")))
  refine seg_execs_cons (seg_Expr_Yield rfl rfl rfl ?_)
  refine (?q1 : wpAny _ ((arTop dp (un + 1) gd env outer).deeper _) _ _ _ _)
  (repeat' ((fail_if_success (with_reducible show wpAny _ _ (pyIter (Value.ref _)) _ _ _)); (first | (k_unfold; (try dsimp only)) | (k_end; wrow_close) | walk1 | (dsimp only; walk1) | ((dsimp only [List.nil_append, List.cons_append]); walk1) | (leave1; (try dsimp only)) | fail "no step")))
  rename_i kap hkap
  refine ⟨t6, oL', h, _, 3, by decide, rfl, rfl, rfl, hkp, hP.2.1, ⟨hP, hFF⟩, fun s2 hP2 => hkap .none s2 ?_⟩
  clear F N hr hP hkp hkap
  obtain ⟨F', ffc', rest', N', hr', _⟩ := start oL' s2.heap mm hP2.1 hO
  dsimp only
  refine seg_execs_nil ?_
  refine seg_execs_cons (seg_stmt (A' := (arTop dp (un + 1) gd env outer).deeper _) rfl ?_)
  (repeat' ((fail_if_success (with_reducible show wpAny _ _ (pyIter (Value.ref _)) _ _ _)); (first | (k_unfold; (try dsimp only)) | (k_end; wrow_close) | walk1 | (dsimp only; walk1) | ((dsimp only [List.nil_append, List.cons_append]); walk1) | (leave1; (try dsimp only)) | fail "no step")))
  rename Fr _ _ _ _ => F6
  rename News _ _ _ _ => N6
  have hk6 := hr' _ _ F6 N6
  obtain ⟨oL6, hO6, hP6⟩ := mk _ _ _ _ F6 N6
  have hFF6 := ffk hk6 hP2.2
  refine seg_execs_nil ?_
  refine seg_again rfl ?_
  refine (?key2 : ∀ (h : Heap) (tk : Nat) (mm : Str → Option Value) (oL' : Obj) (t1 t2 t4 t5 t6 : Tok), Kept Lg s2.heap h → GPre h₀ V dV lf Lg w.params k v bpc (.int kind t3) ro nd nf fvs oL' h → h.FunFrames base (env :: outer) → ONs oL' mm →
    mm (Str.ofString "self") = some (.ref V) → mm (Str.ofString "cluster_vals") = some (.ref (fcvA kind)) → mm (Str.ofString "min_data_cluster") = some (.int 2 t1) → mm (Str.ofString "max_data_cluster") = some (.int (maxv kind) t2) → mm (Str.ofString "eoc_min") = some (.int (eocMin kind) t4) → mm (Str.ofString "eoc_max") = some (.int (ends kind) t5) → mm (Str.ofString "i") = some (.int 2 t6) →
    Seg (model PySem.Challenge.rw_jr0029_01.row.prog w) (arTop dp un gd env outer).in1 (GX (BX Lg (Lg :: frA (env :: outer)) (env :: outer))) (GY Lg (BPre base h₀ (env :: outer) V dV lf Lg w.params k v bpc (.int kind t3) ro nd nf fvs) [3]) 0 s2 _ _ _ { s2 with heap := h, toks := tk })
    _ _ _ oL6 _ _ _ _ _ hk6 hP6 hFF6 hO6 n1 n2 n3 n4 n5 n6 (congrArg (fun z => some (Value.int z _)) hf3')
  (try clear hk6); (try clear hP6); (try clear hO6); (try clear F6); (try clear N6); (try clear hFF6); (try clear hr'); (try clear hP2); (try clear n1); (try clear n2); (try clear n3); (try clear n4); (try clear n5); (try clear n6); (try clear n7); (try clear hO)
  intro h tk mm oL' t1 t2 t4 t5 t6 hkp hP hFF hO n1 n2 n3 n4 n5 n6 n7
  obtain ⟨F, ffc, rest, N, hr, hall⟩ := start oL' h mm hP hO
  have hrk := hr
  have hbLg : base.get? Lg = none := by
    cases q : base.get? Lg with
    | none => rfl
    | some o => exact absurd (Nat.lt_of_lt_of_le (Heap.lt_size (B.stays _ _ q)) hab) (Nat.lt_irrefl _)
  have hkept := fun (h' : Heap) (mm' : Str → Option Value) F' N' => hkp.trans (hr h' mm' F' N')
  have hffk := fun (h' : Heap) (q : Kept Lg h h') => ffk q hFF
  clear hr
  refine seg_whileLoop ?_
  refine (?q5 : wpAny _ ((arTop dp (un + 1) gd env outer).deeper _) _ _ _ _)
  (repeat' ((fail_if_success (with_reducible show wpAny _ _ (pyIter (Value.ref _)) _ _ _)); (first | (k_unfold; (try dsimp only)) | (k_end; wrow_close) | walk1 | (dsimp only; walk1) | ((dsimp only [List.nil_append, List.cons_append]); walk1) | (leave1; (try dsimp only)) | fail "no step")))
  rcases hx with rfl | rfl | rfl
  · iterate 5 (
      all_goals (refine seg_execs_cons (seg_If (A' := (arTop dp (un + 1) gd env outer).deeper _) rfl ?_))
      all_goals ((repeat' ((fail_if_success (with_reducible show wpAny _ _ (pyIter (Value.ref _)) _ _ _)); (first | (k_unfold; (try dsimp only)) | (k_end; wrow_close) | walk1 | (dsimp only; walk1) | ((dsimp only [List.nil_append, List.cons_append]); walk1) | (leave1; (try dsimp only)) | fail "no step"))))
      all_goals first | (exfalso; omega) | skip)
    all_goals (refine seg_execs_cons (seg_stmt (A' := (arTop dp (un + 1) gd env outer).deeper _) rfl ?_))
    all_goals ((repeat' ((fail_if_success (with_reducible show wpAny _ _ (pyIter (Value.ref _)) _ _ _)); (first | (k_unfold; (try dsimp only)) | (k_end; wrow_close) | walk1 | (dsimp only; walk1) | ((dsimp only [List.nil_append, List.cons_append]); walk1) | (leave1; (try dsimp only)) | fail "no step"))))
    all_goals first | exact excAt_of X (by with_reducible assumption) (by assumption) | skip
    all_goals (
      rename ExcO _ _ _ => hx9
      rename Fr h₀ Lg _ _ => F9
      rename News h₀ Lg _ _ => N9
      rename ∀ p : Addr × Obj, p ∈ _ → p.1 ≠ _ => ne9
      rename _ ≠ Lg => neL9
      rename Heap.get? h₀ _ = none => n09
      refine brokenEnd (h0 := s2.heap) (base := base) rfl rfl rfl rfl ?ff hx9 (hkept _ _ F9 N9) ?e0 rfl ?hR
      case ff =>
        obtain ⟨o, es, ep, ho, hd, _⟩ := F9.ns
        exact ⟨(show ScopeKind.function ≠ ScopeKind.module by decide), ⟨Lg, o, rfl, hbLg, ho, fun vs z => by rw [hd] at z; cases z⟩, hffk _ (hrk _ _ F9 N9)⟩
      case e0 =>
        cases q : s2.heap.get? _ with
        | none => rfl
        | some o => exact absurd rfl (ne9 _ (.tail _ (.tail _ (.tail _ (hall _ o (hkp _ _ neL9 q) neL9 n09)))))
      case hR => exact fun h7 fl => ⟨_, rfl, rfl, _, _, rfl, fl⟩)
  · iterate 4 (
      all_goals (refine seg_execs_cons (seg_If (A' := (arTop dp (un + 1) gd env outer).deeper _) rfl ?_))
      all_goals ((repeat' ((fail_if_success (with_reducible show wpAny _ _ (pyIter (Value.ref _)) _ _ _)); (first | (k_unfold; (try dsimp only)) | (k_end; wrow_close) | walk1 | (dsimp only; walk1) | ((dsimp only [List.nil_append, List.cons_append]); walk1) | (leave1; (try dsimp only)) | fail "no step"))))
      all_goals first | (exfalso; omega) | skip)
    all_goals (refine seg_execs_cons (seg_stmt (A' := (arTop dp (un + 1) gd env outer).deeper _) rfl ?_))
    all_goals ((repeat' ((fail_if_success (with_reducible show wpAny _ _ (pyIter (Value.ref _)) _ _ _)); (first | (k_unfold; (try dsimp only)) | (k_end; wrow_close) | walk1 | (dsimp only; walk1) | ((dsimp only [List.nil_append, List.cons_append]); walk1) | (leave1; (try dsimp only)) | fail "no step"))))
    all_goals first | exact excAt_of X (by with_reducible assumption) (by assumption) | skip
    all_goals (
      rename ExcO _ _ _ => hx9
      rename Fr h₀ Lg _ _ => F9
      rename News h₀ Lg _ _ => N9
      rename ∀ p : Addr × Obj, p ∈ _ → p.1 ≠ _ => ne9
      rename _ ≠ Lg => neL9
      rename Heap.get? h₀ _ = none => n09
      refine brokenEnd (h0 := s2.heap) (base := base) rfl rfl rfl rfl ?ff hx9 (hkept _ _ F9 N9) ?e0 rfl ?hR
      case ff =>
        obtain ⟨o, es, ep, ho, hd, _⟩ := F9.ns
        exact ⟨(show ScopeKind.function ≠ ScopeKind.module by decide), ⟨Lg, o, rfl, hbLg, ho, fun vs z => by rw [hd] at z; cases z⟩, hffk _ (hrk _ _ F9 N9)⟩
      case e0 =>
        cases q : s2.heap.get? _ with
        | none => rfl
        | some o => exact absurd rfl (ne9 _ (.tail _ (.tail _ (.tail _ (hall _ o (hkp _ _ neL9 q) neL9 n09)))))
      case hR => exact fun h7 fl => ⟨_, rfl, rfl, _, _, rfl, fl⟩)
  · iterate 5 (
      all_goals (refine seg_execs_cons (seg_If (A' := (arTop dp (un + 1) gd env outer).deeper _) rfl ?_))
      all_goals ((repeat' ((fail_if_success (with_reducible show wpAny _ _ (pyIter (Value.ref _)) _ _ _)); (first | (k_unfold; (try dsimp only)) | (k_end; wrow_close) | walk1 | (dsimp only; walk1) | ((dsimp only [List.nil_append, List.cons_append]); walk1) | (leave1; (try dsimp only)) | fail "no step"))))
      all_goals first | (exfalso; omega) | skip)
    all_goals (refine seg_execs_cons (seg_stmt (A' := (arTop dp (un + 1) gd env outer).deeper _) rfl ?_))
    all_goals ((repeat' ((fail_if_success (with_reducible show wpAny _ _ (pyIter (Value.ref _)) _ _ _)); (first | (k_unfold; (try dsimp only)) | (k_end; wrow_close) | walk1 | (dsimp only; walk1) | ((dsimp only [List.nil_append, List.cons_append]); walk1) | (leave1; (try dsimp only)) | fail "no step"))))
    all_goals first | exact excAt_of X (by with_reducible assumption) (by assumption) | skip
    all_goals (
      rename ExcO _ _ _ => hx9
      rename Fr h₀ Lg _ _ => F9
      rename News h₀ Lg _ _ => N9
      rename ∀ p : Addr × Obj, p ∈ _ → p.1 ≠ _ => ne9
      rename _ ≠ Lg => neL9
      rename Heap.get? h₀ _ = none => n09
      refine brokenEnd (h0 := s2.heap) (base := base) rfl rfl rfl rfl ?ff hx9 (hkept _ _ F9 N9) ?e0 rfl ?hR
      case ff =>
        obtain ⟨o, es, ep, ho, hd, _⟩ := F9.ns
        exact ⟨(show ScopeKind.function ≠ ScopeKind.module by decide), ⟨Lg, o, rfl, hbLg, ho, fun vs z => by rw [hd] at z; cases z⟩, hffk _ (hrk _ _ F9 N9)⟩
      case e0 =>
        cases q : s2.heap.get? _ with
        | none => rfl
        | some o => exact absurd rfl (ne9 _ (.tail _ (.tail _ (.tail _ (hall _ o (hkp _ _ neL9 q) neL9 n09)))))
      case hR => exact fun h7 fl => ⟨_, rfl, rfl, _, _, rfl, fl⟩)
end
section
theorem rst_Y3 : True := by w_top off; trivial
theorem base_none {A : Around} {base g h : Heap} {l : List Env} {L : Addr} {m : Str → Option Value} (K : Below A base l g) (F : Fr g L h m) : base.get? L = none := by
  cases q : base.get? L with
  | none => rfl
  | some o => exact absurd (Nat.lt_of_lt_of_le (Heap.lt_size (K.stays _ _ q)) F.above) (Nat.lt_irrefl _)
set_option linter.all false in
theorem free_broken (w : World) (mean : ExcName → Option Value) (mg mb : Str → Option Value) (rest : List (Addr × Obj)) (V dV lf : Addr) (nd nf : Nat) (k : Nat → Tok) (v : Nat → Value) (bpc : Value) (ffc kind x : Int) (t2 t3 tc : Tok) (fat : List Int) (fvs : List Value)
   (dp un : Nat) (gd : Option (List Code)) (env : Env) (outer : List Env) (A₀ : Around) (base h₀ : Heap) (L : Addr) (m : Str → Option Value) (s : Shared) (Q E : Value → Shared → Prop)
    (B : Below A₀ base outer h₀) (F : Fr h₀ L s.heap m) (X : (Mine.hd.heap_1 w.params).In h₀) (XB : (Mine.hd.heap_1 w.params).In base) (N : News h₀ L s.heap ((V, instObj 316 dV) :: (dV, dictOf (volEs w.params k v bpc (.int ffc t2) (.int kind t3) (.ref lf) (.bool true) (.bool false)) nd) :: (lf, listOf fvs.toArray nf) :: rest)) (T : Top Mine.hd.view_39 (looseW Mine.hd.view_39 [Str.ofString "PyFATException", Str.ofString "errno", Str.ofString "PyFat"]) mean mg mb h₀) (hcs : env.scope.kind = .function) (hfr : env.frame = some L)
    (hV1 : @Ne Nat V dV) (hV2 : @Ne Nat V lf) (hV3 : @Ne Nat dV lf) (hr1 : ∀ p ∈ rest, p.1 ≠ V) (hr2 : ∀ p ∈ rest, p.1 ≠ dV) (hr3 : ∀ p ∈ rest, p.1 ≠ lf)
    (hfat : IntsAre fvs fat) (hk : Kind kind) (hlen : 4 ≤ fat.length ∧ fat.length ≤ 60) (hf3 : fat.getD 3 0 = 2) (hf2 : fat.getD 2 0 = x) (hx : x = 0 ∨ x = badv kind ∨ x = 1) (hffc : 0 ≤ ffc ∧ ffc < 1000)
    (hgb : AllBare s.gens) (hdp : dp + 11 < recursionLimit) (hun : un + 90 < cLine)
    (hraise : ∀ g e h' tk' gens' ffc' t', AllBare gens' → Fr h₀ L g m → Flown g (env :: outer) e .none ((V, instObj 316 dV) :: (dV, dictOf (volEs w.params k v bpc (.int ffc' t') (.int kind t3) (.ref lf) (.bool true) (.bool false)) nd) :: (lf, listOf fvs.toArray nf) :: rest) h' →
      E (.ref e) { s with heap := h', toks := tk', gens := gens' }) :
      wpAny (model PySem.Challenge.rw_jr0029_01.row.prog w) (arTop dp un gd env outer) (call (.ref 189) [.ref V, .int 3 tc]) Q E s := by
  refine wpAny_call ?_
  k_dflt (walk_at "my_enter2")
  rename Fr h₀ L _ m => FG
  rename Below (arTop dp un gd env outer) base _ _ => BG
  have hfl := hfat.length
  (repeat' ((fail_if_success (with_reducible show wpAny _ _ (exec (Stmt.For _ _ _ _ _) _) _ _ _)); (fail_if_success (with_reducible show wpAny _ _ (pyIter (Value.ref _)) _ _ _)); (first | (k_unfold; (try dsimp only)) | (k_end; wrow_close) | walk1 | (dsimp only; walk1) | ((dsimp only [List.nil_append, List.cons_append]); walk1) | (leave1; (try dsimp only)) | fail "no step")))
  refine wpAny_For ?_
  (repeat' ((fail_if_success (with_reducible show wpAny _ _ (exec (Stmt.For _ _ _ _ _) _) _ _ _)); (fail_if_success (with_reducible show wpAny _ _ (pyIter (Value.ref _)) _ _ _)); (first | (k_unfold; (try dsimp only)) | (k_end; wrow_close) | walk1 | (dsimp only; walk1) | ((dsimp only [List.nil_append, List.cons_append]); walk1) | (leave1; (try dsimp only)) | fail "no step")))
  rename (_ ∧ _ ∧ _ ∧ AllLt _ rest) => hlt
  rename Fr _ _ _ _ => F1
  rename News _ _ _ _ => N1
  rename Top _ _ _ _ _ _ => T1
  rename Frag.In _ _ => X1
  rename_i lt _ _
  refine wpAny_call ?_
  refine gen_broken w mean mg mb _ V dV lf nd nf k v bpc (.int ffc t2) (.bool false) kind x t3 _ fat fvs _ _ _ _ _ _ base _ _ _ _ _ BG F1 X1 N1 T1 (.tail _ (.head _)) (.tail _ (.tail _ (.head _))) (.tail _ (.tail _ (.tail _ (.head _)))) hfat hk hlen hf3 hf2 hx ?fr ?dp ?un ?h
  case fr => rfl
  case dp => (show dp + 1 + 8 < _); omega
  case un => (show un + 3 + 60 < _); omega
  intro Lg Ga oL oG gst h₁ tk1 fs F2 N2 hGO hLG hLL hlt2 hgst hfs hgo
  clear F1 N1
  have hr4 : ∀ p ∈ rest, p.1 ≠ lt := fun p hp => Nat.ne_of_lt (kst_ltOf hlt.2.2.2 p hp)
  have hl1 : @Ne Nat lt V := Nat.ne_of_gt hlt.1
  have hl2 : @Ne Nat lt dV := Nat.ne_of_gt hlt.2.1
  have hl3 : @Ne Nat lt lf := Nat.ne_of_gt hlt.2.2.1
  refine wpAny_pyIter_gen (hGO.is (N2 _ (.head _)).1) ?_
  refine gen_loopB (X := BX Lg fs _) (oG := oG) (Lg := Lg) (gi := s.gens.size) (fun i m₁ nx => i ≤ 1 ∧ (∃ us n ffc' tp, nx = (lt, listOf us.toArray n) :: (V, instObj 316 dV) :: (dV, dictOf (volEs w.params k v bpc (.int ffc' tp) (.int kind t3) (.ref lf) (.bool true) (.bool false)) nd) :: (lf, listOf fvs.toArray nf) :: rest ∧ us.length = fvs.length ∧ (i = 0 → ffc' = ffc ∧ IntsAre us fat)) ∧ m₁ (Str.ofString "self") = some (.ref V) ∧ m₁ (Str.ofString "tmp_fat") = some (.ref lt) ∧ (∃ t, m₁ (Str.ofString "_freeclus") = some (.int 0 t))) rfl rfl rfl T1.nolimit ?room hGO (Nat.ne_of_gt hLG) ?hpre (AllBare.push hgb hgst) ?hgs hgo F2 N2 ?hoff ⟨by omega, ⟨_, _, _, _, rfl, rfl, fun _ => ⟨rfl, hfat⟩⟩, rfl, rfl, ⟨_, rfl⟩⟩ ?hX ?turn
  case room => (show dp + 1 < _); omega
  case hgs => exact Array.getElem?_push_size
  case hoff =>
    intro p hp
    have := hlt2 p hp
    exact ⟨Nat.ne_of_lt (Nat.lt_trans this hLG), Nat.ne_of_lt this⟩
  case hpre =>
    rintro i m₁ nx h oL' ⟨_, ⟨us, n, ffc', tp, rfl, _⟩, _⟩ F3 N3
    refine ⟨⟨F3.keep, (N3 _ (.tail _ (.head _))).1, (N3 _ (.tail _ (.tail _ (.tail _ (.head _))))).1, (N3 _ (.tail _ (.tail _ (.tail _ (.tail _ (.tail _ (.head _))))))).1, _, (N3 _ (.tail _ (.tail _ (.tail _ (.tail _ (.head _)))))).1⟩, ?_⟩
    obtain ⟨o, es, ep, ho, hd, _⟩ := F3.ns
    refine ⟨(show ScopeKind.function ≠ ScopeKind.module by decide), ⟨_, o, rfl, ?_, ho, fun vs z => by rw [hd] at z; cases z⟩, BG.frames.of_keeps fun b o hb _ => ⟨o, F3.keep b o hb, rfl⟩⟩
    cases q : base.get? _ with
    | none => rfl
    | some o => exact absurd (Nat.lt_of_lt_of_le (Heap.lt_size (BG.stays _ _ q)) F3.above) (Nat.lt_irrefl _)
  case hX =>
    rintro i m₁ nx h tk9 gens9 oL' e s₁ ⟨hi1, ⟨us, n, ffc', tp, rfl, _⟩, _⟩ hoff9 F3 N3 hb9 ⟨hn0, h', tk', rfl, fl⟩
    subst hfs
    have hne9 : ∀ q ∈ (Ga, oG) :: (V, instObj 316 dV) :: (dV, dictOf (volEs w.params k v bpc (.int ffc' tp) (.int kind t3) (.ref lf) (.bool true) (.bool false)) nd) :: (lf, listOf fvs.toArray nf) :: rest, (q ∈ (Ga, oG) :: (Lg, oL') :: (lt, listOf us.toArray n) :: (V, instObj 316 dV) :: (dV, dictOf (volEs w.params k v bpc (.int ffc' tp) (.int kind t3) (.ref lf) (.bool true) (.bool false)) nd) :: (lf, listOf fvs.toArray nf) :: rest) ∧ q.1 ≠ Lg := by
      intro q hq
      rcases List.mem_cons.mp hq with rfl | hq
      · exact ⟨.head _, Nat.ne_of_gt hLG⟩
      · exact ⟨.tail _ (.tail _ (.tail _ hq)), (hoff9 q (.tail _ hq)).2⟩
    have fl9 := fl ((Ga, oG) :: (V, instObj 316 dV) :: (dV, dictOf (volEs w.params k v bpc (.int ffc' tp) (.int kind t3) (.ref lf) (.bool true) (.bool false)) nd) :: (lf, listOf fvs.toArray nf) :: rest) (fun q hq => by
      obtain ⟨hm, hn⟩ := hne9 q hq
      have z := N3 q hm
      refine ⟨z.1, fun hmem => ?_⟩
      rcases List.mem_cons.mp hmem with y | y
      · exact hn y
      · rcases kts_mem y with y | y
        · exact z.2.1 y
        · obtain ⟨_, o, ho, _⟩ := BG.frames.mem y
          rw [z.2.2] at ho; cases ho)
    have hbL : base.get? _ = none := base_none BG F3
    have hid : ∀ b o, h.get? b = some o → b ≠ Lg → (∀ q ∈ (Ga, oG) :: (V, instObj 316 dV) :: (dV, dictOf (volEs w.params k v bpc (.int ffc' tp) (.int kind t3) (.ref lf) (.bool true) (.bool false)) nd) :: (lf, listOf fvs.toArray nf) :: rest, q.1 ≠ b) → (hideAll h (Lg :: ((Ga, oG) :: (V, instObj 316 dV) :: (dV, dictOf (volEs w.params k v bpc (.int ffc' tp) (.int kind t3) (.ref lf) (.bool true) (.bool false)) nd) :: (lf, listOf fvs.toArray nf) :: rest).map (·.1))).get? b = some o := by
      intro b o e n1 n2
      refine hideAll_get _ e fun hm => ?_
      rcases List.mem_cons.mp hm with y | y
      · exact n1 y
      · obtain ⟨q, hq, hqe⟩ := List.mem_map.mp y
        exact n2 q hq hqe
    have hLgn := (N3 (Lg, oL') (.tail _ (.head _))).2
    have old9 : ∀ b o, _ → (hideAll h (Lg :: ((Ga, oG) :: (V, instObj 316 dV) :: (dV, dictOf (volEs w.params k v bpc (.int ffc' tp) (.int kind t3) (.ref lf) (.bool true) (.bool false)) nd) :: (lf, listOf fvs.toArray nf) :: rest).map (·.1))).get? b = some o := fun b o e =>
      hid b o (F3.keep b o e) (fun z => by rw [z, hLgn.2] at e; cases e) (fun q hq z => by have := (N3 q (hne9 q hq).1).2.2; rw [z, e] at this; cases this)
    have h41 : h'.get? 41 = some c41 := flown_old fl9 (old9 41 c41 (BG.stays _ _ (in41 XB))) (fun hm => by
      rcases kts_mem hm with y | y
      · have q := (in41 XB).symm.trans ((congrArg base.get? y).trans hbL)
        cases q
      · have := (BG.frames.mem y).1
        rw [in41 XB] at this; cases this)
    refine ⟨hGO.is (flown_at fl9 (.head _)), notStop41 h41 (flown_cls fl9), ?_⟩
    have FG9 : Fr _ _ _ m₁ := ⟨F3.ns.at' (fun o e => hid _ o e hLgn.1.symm (fun q hq => (N3 q (hne9 q hq).1).2.1)), old9, F3.above⟩
    refine leaveLoopD2 BG FG9 fl9 rfl ?_
    intro h2 fl2
    exact hraise _ _ _ _ _ _ _ (bare_set (bare_set hb9 rfl) rfl) FG fl2.drop
  case turn =>
    rintro i t c m₁ nx h tk9 gens9 oL' m₂ hb9 hc hoff9 ⟨_, ⟨us, n, ffc', tp, rfl, hulen, hus0⟩, k1, k2, ⟨u3, k3⟩⟩ hx hy F3 N3
    have k1 := (hy (Str.ofString "self") (by decide)).trans k1
    have k2 := (hy (Str.ofString "tmp_fat") (by decide)).trans k2
    have k3 := (hy (Str.ofString "_freeclus") (by decide)).trans k3
    clear hy
    have hi9 : i = 0 := by
      have := (List.getElem?_eq_some_iff.mp hc).1
      simp at this
      exact this
    subst hi9
    obtain ⟨rfl, hus⟩ := hus0 rfl
    obtain rfl : 3 = c := by simpa using hc
    have hA1 : @Ne Nat Ga lt := fun e => (hoff9 (lt, _) (.head _)).1 e.symm
    have hA2 : @Ne Nat Lg lt := fun e => (hoff9 (lt, _) (.head _)).2 e.symm
    have hA3 : @Ne Nat Ga V := fun e => (hoff9 (V, _) (.tail _ (.head _))).1 e.symm
    have hA4 : @Ne Nat Lg V := fun e => (hoff9 (V, _) (.tail _ (.head _))).2 e.symm
    have hA5 : @Ne Nat Ga dV := fun e => (hoff9 (dV, _) (.tail _ (.tail _ (.head _)))).1 e.symm
    have hA6 : @Ne Nat Lg dV := fun e => (hoff9 (dV, _) (.tail _ (.tail _ (.head _)))).2 e.symm
    have hA7 : @Ne Nat Ga lf := fun e => (hoff9 (lf, _) (.tail _ (.tail _ (.tail _ (.head _))))).1 e.symm
    have hA8 : @Ne Nat Lg lf := fun e => (hoff9 (lf, _) (.tail _ (.tail _ (.tail _ (.head _))))).2 e.symm
    have hr5 : ∀ p ∈ rest, p.1 ≠ Ga := fun p hp => (hoff9 p (.tail _ (.tail _ (.tail _ (.tail _ hp))))).1
    have hr6 : ∀ p ∈ rest, p.1 ≠ Lg := fun p hp => (hoff9 p (.tail _ (.tail _ (.tail _ (.tail _ hp))))).2
    have hGL1 : @Ne Nat Ga Lg := Nat.ne_of_gt hLG
    clear F2 N2
    refine wpAny_passesOwn (by passes_own) ?_
    (repeat' ((fail_if_success (with_reducible show wpAny _ _ (pyIter (Value.ref _)) _ _ _)); (first | (k_unfold; (try dsimp only)) | (k_end; wrow_close) | walk1 | (dsimp only; walk1) | ((dsimp only [List.nil_append, List.cons_append]); walk1) | (leave1; (try dsimp only)) | fail "no step")))
    rename IntsAre _ (List.set _ _ _) => hi2
    rename News _ _ _ (_ :: _ :: _) => N9
    refine ⟨_, _, _, _, rfl, by k_asm, N9, ?_, by omega, ⟨_, _, _, _, rfl, ?_, fun h => absurd h (by omega)⟩, k1, k2, ⟨_, k3⟩⟩
    · exact fun p hp => by
        rcases List.mem_cons.mp hp with rfl | hp
        · exact ⟨hA1.symm, hA2.symm⟩
        rcases List.mem_cons.mp hp with rfl | hp
        · exact ⟨hA3.symm, hA4.symm⟩
        rcases List.mem_cons.mp hp with rfl | hp
        · exact ⟨hA5.symm, hA6.symm⟩
        rcases List.mem_cons.mp hp with rfl | hp
        · exact ⟨hA7.symm, hA8.symm⟩
        exact ⟨hr5 p hp, hr6 p hp⟩
    · have q1 := hi2.length
      have q2 := hus.length
      have q3 := hfat.length
      simp only [List.length_set] at q1 ⊢
      omega
end
section
local macro_rules | `(tactic| walk_at "loadName") => `(tactic| (k_here; k_dflt (refine' ldn ?k1 ?k2 ?_; (case k1 => k_asm); (case k2 => walk_at "my_name"); k_whole)))
local macro_rules | `(tactic| walk_at "inplaceOp Add ref") => `(tactic| ((with_reducible show wpAny _ _ (inplaceOp Operator.Add (Value.ref _) (Value.ref _)) _ _ _); k_dflt (refine' iadd_my ?k1 ?k2 ?k3 ?k4 ?k5 ?_; (case k1 | k2 => k_asm); (case k3 => k_mem); (case k4 => k_upd); (case k5 => (simp only [List.size_toArray]; exact Nat.lt_of_le_of_lt (by omega : _ ≤ 5000) (by decide))); k_whole); intro h' F' N'; (try k_sweep)))
section
theorem rst_B1 : True := by w_top off; trivial
local macro_rules | `(tactic| walk_at "exec For Tuple Call cons nil") => `(tactic| (k_here; (rename Fr _ _ _ _ => lF'); (with_unfolding_all refine' For_turns lF' ?_; k_whole)))
set_option linter.all false in
theorem alloc_claim (w : World) (mean : ExcName → Option Value) (mg mb : Str → Option Value) (rest : List (Addr × Obj)) (V dV lf : Addr) (nd nf : Nat) (k : Nat → Tok) (v : Nat → Value) (bpc ffc kind wanted : Int) (t1 t2 t3 t4 : Tok) (fat : List Int) (fvs : List Value)
   (dp un : Nat) (gd : Option (List Code)) (env : Env) (A₀ : Around) (base h₀ : Heap) (L : Addr) (m : Str → Option Value) (s : Shared) (Q E : Value → Shared → Prop)
    (B : Below A₀ base [] h₀) (F : Fr h₀ L s.heap m) (X : (Mine.hd.heap_1 w.params).In h₀) (N : News h₀ L s.heap ((V, instObj 316 dV) :: (dV, dictOf (volEs w.params k v (.int bpc t1) (.int ffc t2) (.int kind t3) (.ref lf) (.bool true) (.bool false)) nd) :: (lf, listOf fvs.toArray nf) :: rest)) (T : Top Mine.hd.view_39 (looseW Mine.hd.view_39 [Str.ofString "PyFATException", Str.ofString "errno", Str.ofString "PyFat"]) mean mg mb h₀) (hcs : env.scope.kind = .function) (hfr : env.frame = some L)
    (hV : @Ne Nat V dV ∧ @Ne Nat V lf ∧ @Ne Nat dV lf) (hr1 : ∀ p ∈ rest, p.1 ≠ V) (hr2 : ∀ p ∈ rest, p.1 ≠ dV) (hr3 : ∀ p ∈ rest, p.1 ≠ lf)
    (hfat : IntsAre fvs fat) (hk : Kind kind) (hlen : 3 ≤ fat.length ∧ fat.length ≤ 60) (hffc : 0 ≤ ffc ∧ ffc < fat.length) (hbpc : 1 ≤ bpc ∧ bpc ≤ 40) (hwt : 0 ≤ wanted ∧ wanted ≤ 4000)
    (hdp : dp + 6 < recursionLimit) (hun : un + 60 < cLine)
    (hfree : numOf wanted bpc ≤ ((scan fat ffc.toNat fat.length).length : Int)) (hlast : fat.getD (fat.length - 1) 0 ≠ 0)
    (hret : ∀ r p us n nf' fvs' t' h' tk', Fr h₀ L h' m → News h₀ L h' ((r, listOf (List.toArray us) n) :: (V, instObj 316 dV) :: (dV, dictOf (volEs w.params k v (.int bpc t1) (.int ((p : Nat) : Int) t') (.int kind t3) (.ref lf) (.bool true) (.bool false)) nd) :: (lf, listOf (List.toArray fvs') nf') :: rest) → (@LT.lt Nat _ V r ∧ @LT.lt Nat _ dV r ∧ @LT.lt Nat _ lf r ∧ ∀ q ∈ rest, q.1 < r) → p < fat.length → ffc.toNat ≤ p →
      IntsAre us (scan fat ffc.toNat p) → ((scan fat ffc.toNat p).length : Int) = numOf wanted bpc → IntsAre fvs' (putChain (ends kind) fat (scan fat ffc.toNat p)) → Q (.ref r) { s with heap := h', toks := tk' }) :
      wpAny (model PySem.Challenge.rw_jr0029_01.row.prog w) (arTop dp un gd env []) (call (.ref 220) [.ref V, .int wanted t4]) Q E s := by
  refine wpAny_call ?_
  k_dflt (walk_at "my_enter2")
  rename Fr h₀ L _ m => FG
  have hmax : 4079 ≤ maxv kind := by rcases hk with rfl | rfl | rfl <;> decide
  have hbad : 4087 ≤ badv kind := by rcases hk with rfl | rfl | rfl <;> decide
  have hnum := numOf_bounds hwt.1 hwt.2 hbpc.1
  have hfl := hfat.length
  obtain ⟨ff, rfl⟩ : ∃ ff : Nat, ffc = (ff : Int) := ⟨ffc.toNat, by omega⟩
  have eff : (ff : Int).toNat = ff := by omega
  simp only [eff] at hfree hret
  obtain ⟨nn, hnn⟩ : ∃ nn : Nat, numOf wanted bpc = (nn : Int) := ⟨(numOf wanted bpc).toNat, by omega⟩
  have hnd : -((-wanted).fdiv bpc) = (nn : Int) := hnn
  rw [hnn] at hfree hnum
  simp only [hnn] at hret
  (repeat' ((fail_if_success (with_reducible show wpAny _ _ (pyIter (Value.ref _)) _ _ _)); (first | (k_unfold; (try dsimp only)) | (k_end; wrow_close) | walk1 | (dsimp only; walk1) | ((dsimp only [List.nil_append, List.cons_append]); walk1) | (leave1; (try dsimp only)) | fail "no step")))
  refine wpAny_For ?_
  (repeat' ((fail_if_success (with_reducible show wpAny _ _ (pyIter (Value.ref _)) _ _ _)); (first | (k_unfold; (try dsimp only)) | (k_end; wrow_close) | walk1 | (dsimp only; walk1) | ((dsimp only [List.nil_append, List.cons_append]); walk1) | (leave1; (try dsimp only)) | fail "no step")))
  rename Fr _ _ _ _ => F1
  rename News _ _ _ _ => N1
  rename IsRange _ _ _ _ _ _ _ _ => hR
  rename (_ ∧ _ ∧ _ ∧ AllLt _ rest) => hlt
  rename_i lfc _ _ _ _ _ _ _ _ _ _
  have hr4 : ∀ p ∈ rest, p.1 ≠ lfc := fun p hp => Nat.ne_of_lt (kst_ltOf hlt.2.2.2 p hp)
  have hlV1 : @Ne Nat lfc V := Nat.ne_of_gt hlt.1
  have hlV2 : @Ne Nat lfc dV := Nat.ne_of_gt hlt.2.1
  have hlV3 : @Ne Nat lfc lf := Nat.ne_of_gt hlt.2.2.1
  obtain ⟨hV1, hV2, hV3⟩ := hV
  have hsz : (fat.length : Int) = (ff : Int) + ((fat.length - ff : Nat) : Int) := by omega
  refine wpAny_mono (iter_elseR (n := fat.length - ff) (fun i m₁ nx => (∃ us n, nx = (lfc, listOf us.toArray n) :: (V, instObj 316 dV) :: (dV, dictOf (volEs w.params k v (.int bpc t1) (.int (ff : Int) t2) (.int kind t3) (.ref lf) (.bool true) (.bool false)) nd) :: (lf, listOf fvs.toArray nf) :: rest ∧ IntsAre us (scan fat ff (ff + i))) ∧ (scan fat ff (ff + i)).length ≤ nn ∧ (∀ q, ff ≤ q → q < ff + i → 2 ≤ q → (scan fat ff q).length ≠ nn)
      ∧ m₁ (Str.ofString "self") = some (.ref V) ∧ m₁ (Str.ofString "erase") = some (.bool false) ∧ (∃ t, m₁ (Str.ofString "free_clus") = some (.int 0 t)) ∧ (∃ t, m₁ (Str.ofString "min_clus") = some (.int 2 t)) ∧ (∃ t, m₁ (Str.ofString "max_clus") = some (.int (maxv kind) t)) ∧ (∃ t, m₁ (Str.ofString "num_clusters") = some (.int (nn : Int) t)) ∧ m₁ (Str.ofString "free_clusters") = some (.ref lfc)) rfl rfl rfl hR (small_up (by omega) (by omega) (by omega) (by omega)) (size_up hsz) F1 N1 ?hj ?turn ?done) (fun _ _ h => h) (fun _ _ h => h.elim)
  case hj =>
    refine ⟨⟨_, _, rfl, ?_⟩, ?_, ?_, rfl, rfl, ⟨_, rfl⟩, ⟨_, rfl⟩, ⟨_, rfl⟩, ⟨_, congrArg (fun z => some (Value.int z _)) hnd⟩, rfl⟩
    · rw [Nat.add_zero, scan_start]; exact .nil
    · rw [Nat.add_zero, scan_start]; exact Nat.zero_le _
    · intro q h1 h2; omega
  case turn =>
    rintro i t m₁ nx h tk1 I oI m₂ hi9 hoff ⟨⟨us, n, rfl, hus⟩, hle, hnot, k1, k2, ⟨u3, k3⟩, ⟨u4, k4⟩, ⟨u5, k5⟩, ⟨u6, k6⟩, k7⟩ hx hy F₂ N₂
    have k1 := (hy (Str.ofString "self") (by decide)).trans k1
    have k2 := (hy (Str.ofString "erase") (by decide)).trans k2
    have k3 := (hy (Str.ofString "free_clus") (by decide)).trans k3
    have k4 := (hy (Str.ofString "min_clus") (by decide)).trans k4
    have k5 := (hy (Str.ofString "max_clus") (by decide)).trans k5
    have k6 := (hy (Str.ofString "num_clusters") (by decide)).trans k6
    have k7 := (hy (Str.ofString "free_clusters") (by decide)).trans k7
    clear hy
    have hI1 : @Ne Nat I lfc := fun e => hoff (lfc, _) (.head _) e.symm
    have hI2 : @Ne Nat I V := fun e => hoff (V, _) (.tail _ (.head _)) e.symm
    have hI3 : @Ne Nat I dV := fun e => hoff (dV, _) (.tail _ (.tail _ (.head _))) e.symm
    have hI4 : @Ne Nat I lf := fun e => hoff (lf, _) (.tail _ (.tail _ (.tail _ (.head _)))) e.symm
    have hr5 : ∀ p ∈ rest, p.1 ≠ I := fun p hp => hoff p (.tail _ (.tail _ (.tail _ (.tail _ hp))))
    have e1 : ((ff : Int) + (i : Int)).toNat = ff + i := by omega
    have hul := hus.length
    refine wpAny_passesOwn (by passes_own) ?_
    (repeat' ((fail_if_success (with_reducible show wpAny _ _ (pyIter (Value.ref _)) _ _ _)); (first | (k_unfold; (try dsimp only)) | (k_end; wrow_close) | walk1 | (dsimp only; walk1) | ((dsimp only [List.nil_append, List.cons_append]); walk1) | (leave1; (try dsimp only)) | fail "no step")))
    · have e2 : scan fat ff (ff + (i + 1)) = scan fat ff (ff + i) := scan_no (p := ff + i) (fun hq => by omega)
      refine ⟨_, _, _, _, rfl, F₂, N₂, hoff, ⟨_, _, rfl, ?_⟩, ?_, ?_, k1, k2, ⟨_, k3⟩, ⟨_, k4⟩, ⟨_, k5⟩, ⟨_, k6⟩, k7⟩
      · rw [e2]; exact hus
      · rw [e2]; exact hle
      · intro q h1 h2 h3
        exact hnot q h1 (by omega) h3
    · dsimp only [TurnPR]
      have hpl : ff + i < fat.length := by omega
      have hlen2 : (scan fat ff (ff + i)).length = nn := by omega
      (repeat' ((fail_if_success (with_reducible show wpAny _ _ (exec (Stmt.For (Expr.Tuple _ _ _) _ _ _ _) _) _ _ _)); (fail_if_success (with_reducible show wpAny _ _ (pyIter (Value.ref _)) _ _ _)); (first | (k_unfold; (try dsimp only)) | (k_end; wrow_close) | walk1 | (dsimp only; walk1) | ((dsimp only [List.nil_append, List.cons_append]); walk1) | (leave1; (try dsimp only)) | fail "no step")))
      rename Fr _ _ _ (fun y => if y = Str.ofString "eoc_max" then _ else _) => F6
      rename News _ _ _ (_ :: _ :: _ :: (dV, dictOf (volEs _ _ _ _ (Value.int ((ff : Int) + (i : Int)) t) _ _ _ _) _) :: _) => N6
      have htold : us.length ≤ 60 := by have := scan_length_le fat ff (ff + i); omega
      obtain ⟨g₂, oL, F8, N8, hON, hneL, hst⟩ := rebase FG F6 (News_drop1 N6)
      have X8 := X.keeps hst
      have T8 := T.keeps hst
      have hL1 : @Ne Nat L lfc := fun e => hneL (lfc, _) (.head _) e.symm
      have hL2 : @Ne Nat L V := fun e => hneL (V, _) (.tail _ (.head _)) e.symm
      have hL3 : @Ne Nat L dV := fun e => hneL (dV, _) (.tail _ (.tail _ (.head _))) e.symm
      have hL4 : @Ne Nat L lf := fun e => hneL (lf, _) (.tail _ (.tail _ (.tail _ (.head _)))) e.symm
      have hrL : ∀ p ∈ rest, p.1 ≠ L := fun p hp => hneL p (.tail _ (.tail _ (.tail _ (.tail _ hp))))
      have hLab := FG.above
      clear N6 F6
      (repeat' ((fail_if_success (with_reducible show wpAny _ _ (pyIter (Value.ref _)) _ _ _)); (first | (k_unfold; (try dsimp only)) | (k_end; wrow_close) | walk1 | (dsimp only; walk1) | ((dsimp only [List.nil_append, List.cons_append]); walk1) | (leave1; (try dsimp only)) | fail "no step")))
      refine' enum_my (fun j m₁ nx => (∃ oL fvs' nf', nx = (L, oL) :: (lfc, listOf us.toArray n) :: (V, instObj 316 dV) :: (dV, dictOf (volEs w.params k v (.int bpc t1) (.int ((ff : Int) + (i : Int)) t) (.int kind t3) (.ref lf) (.bool true) (.bool false)) nd) :: (lf, listOf fvs'.toArray nf') :: rest ∧ ONs oL m ∧ IntsAre fvs' (putPart (ends kind) (scan fat ff (ff + i)) fat j)) ∧ m₁ (Str.ofString "self") = some (.ref V) ∧ m₁ (Str.ofString "erase") = some (.bool false) ∧ m₁ (Str.ofString "free_clusters") = some (.ref lfc) ∧ (∃ u, m₁ (Str.ofString "eoc_max") = some (.int (ends kind) u))) ?a1 ?a2 ?a3 ?a4 ?a5 ?a6 ?a7 ?a8 ?hj2 ?hlJ ?turn2 ?done2
      case a1 => rfl
      case a2 => rfl
      case a3 => rfl
      case a4 => rfl
      case a5 => decide
      case a7 => assumption
      case a8 => exact N8
      case a6 => exact List.Mem.tail _ (List.Mem.head _)
      case hj2 => exact ⟨⟨_, _, _, rfl, hON, hfat⟩, k1, k2, k7, ⟨_, rfl⟩⟩
      case hlJ =>
        rintro j m₁ nx ⟨⟨_, _, _, rfl, _⟩, _⟩
        exact .tail _ (.head _)
      case turn2 =>
        (try clear F1); (try clear F8); (try clear N8); (try clear N1); (try clear k1); (try clear k2); (try clear k3); (try clear k4); (try clear k5); (try clear k6); (try clear k7); (try clear F6); (try clear N6); (try clear N7); (try clear hnot); (try clear hoff); (try clear hx)
        rintro j tj vj m₁ nx h tk1 I1 o1 I2 o2 m₃ hvj hoff1 hoff2 hI12 ⟨⟨oL1, fvs', nf', rfl, hON1, hfat'⟩, k1, k2, k3, ⟨u4, k4⟩⟩ hx hy F₂ N₂
        have k1 := (hy (Str.ofString "self") (by decide) (by decide)).trans k1
        have k2 := (hy (Str.ofString "erase") (by decide) (by decide)).trans k2
        have k3 := (hy (Str.ofString "free_clusters") (by decide) (by decide)).trans k3
        have k4 := (hy (Str.ofString "eoc_max") (by decide) (by decide)).trans k4
        clear hy
        have hA1 : @Ne Nat I1 lfc := fun e => hoff1 (lfc, _) (.tail _ (.head _)) e.symm
        have hA2 : @Ne Nat I1 V := fun e => hoff1 (V, _) (.tail _ (.tail _ (.head _))) e.symm
        have hA3 : @Ne Nat I1 dV := fun e => hoff1 (dV, _) (.tail _ (.tail _ (.tail _ (.head _)))) e.symm
        have hA4 : @Ne Nat I1 lf := fun e => hoff1 (lf, _) (.tail _ (.tail _ (.tail _ (.tail _ (.head _))))) e.symm
        have hA5 : @Ne Nat I1 L := fun e => hoff1 (L, _) (.head _) e.symm
        have hr6 : ∀ p ∈ rest, p.1 ≠ I1 := fun p hp => hoff1 p (.tail _ (.tail _ (.tail _ (.tail _ (.tail _ hp)))))
        have hB1 : @Ne Nat I2 lfc := fun e => hoff2 (lfc, _) (.tail _ (.head _)) e.symm
        have hB2 : @Ne Nat I2 V := fun e => hoff2 (V, _) (.tail _ (.tail _ (.head _))) e.symm
        have hB3 : @Ne Nat I2 dV := fun e => hoff2 (dV, _) (.tail _ (.tail _ (.tail _ (.head _)))) e.symm
        have hB4 : @Ne Nat I2 lf := fun e => hoff2 (lf, _) (.tail _ (.tail _ (.tail _ (.tail _ (.head _))))) e.symm
        have hB5 : @Ne Nat I2 L := fun e => hoff2 (L, _) (.head _) e.symm
        have hr7 : ∀ p ∈ rest, p.1 ≠ I2 := fun p hp => hoff2 p (.tail _ (.tail _ (.tail _ (.tail _ (.tail _ hp)))))
        have hj9 : j < us.length := (List.getElem?_eq_some_iff.mp hvj).1
        have hfl' := hfat'.length
        rw [putPart_length] at hfl'
        have ej : ((j : Nat) : Int).toNat = j := by omega
        have hcl : ∀ q, q < (scan fat ff (ff + i)).length → 0 ≤ (scan fat ff (ff + i)).getD q 0 ∧ (scan fat ff (ff + i)).getD q 0 < (fat.length : Int) := fun q hq => by
          rw [List.getD_eq_getElem?_getD, List.getElem?_eq_getElem hq]
          obtain ⟨z, hz1, hz2, _⟩ := mem_scan (List.getElem_mem hq)
          simp only [Option.getD_some, hz1]
          omega
        have hcj := hcl j (by omega)
        rw [← ej] at hcj
        have hadd : ∀ p ∈ (L, oL1) :: (lfc, PySem.W.listOf us.toArray n) :: (V, instObj 316 dV) :: (dV, dictOf (volEs w.params k v (.int bpc t1) (.int ((ff : Int) + (i : Int)) t) (.int kind t3) (.ref lf) (.bool true) (.bool false)) nd) :: (lf, PySem.W.listOf fvs'.toArray nf') :: rest, True := fun _ _ => trivial
        clear hadd
        have ej1 : ((j : Nat) : Int) + 1 = ((j + 1 : Nat) : Int) := by omega
        have ej2 : (((j + 1 : Nat) : Nat) : Int).toNat = j + 1 := by omega
        have hoff9 : ∀ (o5 o6 : Obj), ∀ p ∈ (L, o5) :: (lfc, PySem.W.listOf us.toArray n) :: (V, instObj 316 dV) :: (dV, dictOf (volEs w.params k v (.int bpc t1) (.int ((ff : Int) + (i : Int)) t) (.int kind t3) (.ref lf) (.bool true) (.bool false)) nd) :: (lf, o6) :: rest, p.1 ≠ I1 ∧ p.1 ≠ I2 := fun o5 o6 p hp => by
          rcases List.mem_cons.mp hp with rfl | hp
          · exact ⟨hA5.symm, hB5.symm⟩
          rcases List.mem_cons.mp hp with rfl | hp
          · exact ⟨hA1.symm, hB1.symm⟩
          rcases List.mem_cons.mp hp with rfl | hp
          · exact ⟨hA2.symm, hB2.symm⟩
          rcases List.mem_cons.mp hp with rfl | hp
          · exact ⟨hA3.symm, hB3.symm⟩
          rcases List.mem_cons.mp hp with rfl | hp
          · exact ⟨hA4.symm, hB4.symm⟩
          exact ⟨hr6 p hp, hr7 p hp⟩
        by_cases hlastj : j + 1 < (scan fat ff (ff + i)).length
        · (repeat' ((fail_if_success (with_reducible show wpAny _ _ (pyIter (Value.ref _)) _ _ _)); (first | (k_unfold; (try dsimp only)) | (k_end; wrow_close) | walk1 | (dsimp only; walk1) | ((dsimp only [List.nil_append, List.cons_append]); walk1) | (leave1; (try dsimp only)) | fail "no step")))
          rename IntsAre _ (List.set _ _ _) => hi2
          refine ⟨_, _, _, _, rfl, by k_asm, by k_asm, hoff9 _ _, ⟨oL1, _, _, rfl, hON1, ?_⟩, k1, k2, k3, ⟨_, k4⟩⟩
          rw [putPart_succ]
          unfold putStep
          rw [if_pos hlastj]
          simp only [ej, ej1, ej2] at hi2 ⊢
          exact hi2
        · (repeat' ((fail_if_success (with_reducible show wpAny _ _ (pyIter (Value.ref _)) _ _ _)); (first | (k_unfold; (try dsimp only)) | (k_end; wrow_close) | walk1 | (dsimp only; walk1) | ((dsimp only [List.nil_append, List.cons_append]); walk1) | (leave1; (try dsimp only)) | fail "no step")))
          rename Heap.NewExc _ _ _ _ => hX9
          refine caught_new (envC := env) (Lc := L) (oc := oL1) (Tn := "IndexError") ?q1 ?q2 ?q3 F₂ (News_rot' N₂) ?q4 hON1.plain hX9 X8 (topRead_of T8) ?q5 PyProof.Rows.Boot.«IndexError» ?q6 PySem.F.isExc_IndexError PySem.F.notTuple_IndexError ?q7 ?q8 rfl rfl rfl (by passes_own)
          case q1 => rfl
          case q2 => exact hfr
          case q3 => rw [hcs]; decide
          case q4 =>
            intro p hp
            rcases List.mem_cons.mp hp with rfl | hp
            · exact hA5
            rcases List.mem_cons.mp hp with rfl | hp
            · exact hB5
            rcases List.mem_cons.mp hp with rfl | hp
            · exact hL1.symm
            rcases List.mem_cons.mp hp with rfl | hp
            · exact hL2.symm
            rcases List.mem_cons.mp hp with rfl | hp
            · exact hL3.symm
            rcases List.mem_cons.mp hp with rfl | hp
            · exact hL4.symm
            exact hrL p hp
          case q5 => k_is
          case q6 => decide
          case q7 => exact isSubtype_of_subB (by decide +kernel)
          case q8 =>
            intro h9 sl F9 N9
            clear F₂ N₂
            (repeat' ((fail_if_success (with_reducible show wpAny _ _ (pyIter (Value.ref _)) _ _ _)); (first | (k_unfold; (try dsimp only)) | (k_end; wrow_close) | walk1 | (dsimp only; walk1) | ((dsimp only [List.nil_append, List.cons_append]); walk1) | (leave1; (try dsimp only)) | fail "no step")))
            rename IntsAre _ (List.set _ _ _) => hi2
            rename News _ _ _ _ => N10
            refine ⟨_, _, _, _, rfl, by k_asm, News_rot N10, hoff9 _ _, ⟨_, _, _, rfl, hON1.slots, ?_⟩, k1, k2, k3, ⟨_, k4⟩⟩
            rw [putPart_succ]
            unfold putStep
            rw [if_neg hlastj]
            simp only [ej] at hi2 ⊢
            exact hi2
      case done2 =>
        (try clear F1); (try clear F8); (try clear N8); (try clear N1); (try clear k1); (try clear k2); (try clear k3); (try clear k7)
        rintro m₁ nx h tk1 ⟨⟨oL1, fvs', nf', rfl, hON1, hi⟩, k1, k2, k3, _⟩ F₂ N₂
        (repeat' ((fail_if_success (with_reducible show wpAny _ _ (pyIter (Value.ref _)) _ _ _)); (first | (k_unfold; (try dsimp only)) | (k_end; wrow_close) | walk1 | (dsimp only; walk1) | ((dsimp only [List.nil_append, List.cons_append]); walk1) | (leave1; (try dsimp only)) | fail "no step")))
        rename Fr g₂ _ _ m₁ => F9
        rename News g₂ _ _ _ => N9
        have hne9 : ∀ p ∈ (lfc, PySem.W.listOf us.toArray n) :: (V, instObj 316 dV) :: (dV, dictOf (volEs w.params k v (.int bpc t1) (.int ((ff : Int) + (i : Int)) t) (.int kind t3) (.ref lf) (.bool true) (.bool false)) nd) :: (lf, PySem.W.listOf fvs'.toArray nf') :: rest, p.1 ≠ L := fun p hp => by
          rcases List.mem_cons.mp hp with rfl | hp
          · exact hL1.symm
          rcases List.mem_cons.mp hp with rfl | hp
          · exact hL2.symm
          rcases List.mem_cons.mp hp with rfl | hp
          · exact hL3.symm
          rcases List.mem_cons.mp hp with rfl | hp
          · exact hL4.symm
          exact hrL p hp
        obtain ⟨F10, N10⟩ := back hst hLab F9 N9 hON1 hne9
        have ep : (ff : Int) + (i : Int) = ((ff + i : Nat) : Int) := by omega
        rw [ep] at N10
        refine hret lfc (ff + i) us n nf' fvs' t _ _ F10 N10 ⟨hlt.1, hlt.2.1, hlt.2.2.1, kst_ltOf hlt.2.2.2⟩ hpl (by omega) hus (by omega) ?_
        rw [putChain_eq, ← hul]
        exact hi
    · exfalso; omega
    · exfalso; omega
    all_goals (
      have hz : ¬ (ff : Int) + (i : Int) < 2 := by assumption
      have hnn : (nn : Int) ≠ ((scan fat ff (ff + i)).length : Int) := by assumption
      rw [e1] at *)
    rotate_left 2
    · have e2 : scan fat ff (ff + (i + 1)) = scan fat ff (ff + i) := scan_no (p := ff + i) (fun hq => by assumption)
      refine ⟨_, _, _, _, rfl, F₂, N₂, hoff, ⟨_, _, rfl, ?_⟩, ?_, ?_, k1, k2, ⟨_, k3⟩, ⟨_, k4⟩, ⟨_, k5⟩, ⟨_, k6⟩, k7⟩
      · rw [e2]; exact hus
      · rw [e2]; exact hle
      · intro q h1 h2 h3
        by_cases hq : q = ff + i
        · subst hq; omega
        · exact hnot q h1 (by omega) h3
    all_goals (
      have e2 : scan fat ff (ff + (i + 1)) = scan fat ff (ff + i) ++ [((ff + i : Nat) : Int)] := scan_yes (p := ff + i) (by omega) (by omega) (by assumption)
      rename Fr _ _ _ (fun y => if y = Str.ofString "free_clusters" then _ else _) => F5
      rename News _ _ _ ((_, PySem.W.listOf #[_] 0) :: _) => N5
      refine ⟨_, _, _, _, rfl, F5, fun q hq => N5 q (.tail _ hq), ?_, ⟨_, _, by rw [List.push_toArray], ?_⟩, ?_, ?_, k1, k2, ⟨_, k3⟩, ⟨_, k4⟩, ⟨_, k5⟩, ⟨_, k6⟩, rfl⟩
      · exact fun p hp => by
          rcases List.mem_cons.mp hp with rfl | hp
          · exact hI1.symm
          · exact hoff p (.tail _ hp)
      · rw [e2]; exact IntsAre.append hus (.cons _ _ .nil)
      · rw [e2, List.length_append, List.length_singleton]; omega
      · intro q h1 h2 h3
        by_cases hq : q = ff + i
        · subst hq; omega
        · exact hnot q h1 (by omega) h3)
  case done =>
    rintro m₁ nx h tk1 ⟨⟨us, n, rfl, hus⟩, hle, hnot, _⟩ F₂ N₂
    exfalso
    refine hnot (fat.length - 1) (by omega) (by omega) (by omega) ?_
    have e3 : fat.length = fat.length - 1 + 1 := by omega
    have e4 : scan fat ff fat.length = scan fat ff (fat.length - 1) := by
      rw [e3]; exact scan_no (fun _ => by simpa using hlast)
    have e5 : (scan fat ff (fat.length - 1)).length ≤ (scan fat ff (ff + (fat.length - ff))).length := scan_le (by omega)
    rw [e4] at hfree
    omega
end
section
theorem rst_Y2 : True := by w_top off; trivial
theorem lit100 {x : Str} (h : Nat.ble x.length 100 = true) : x.length ≤ 100 := Nat.le_of_ble_eq_true h
theorem fits_msg {a b c x y : Str} (ha : a.length ≤ 100) (hx : x.length ≤ 10) (hb : b.length ≤ 100) (hy : y.length ≤ 10) (hc : c.length ≤ 100) : (Str.empty ++ a ++ x ++ b ++ y ++ c).length ≤ sizeLine := by
  have h0 : Str.length Str.empty = 0 := rfl
  simp only [PySem.Str.length_append, h0, sizeLine_eq]
  omega
set_option linter.all false in
theorem alloc_nospace (w : World) (mean : ExcName → Option Value) (mg mb : Str → Option Value) (rest : List (Addr × Obj)) (V dV lf : Addr) (nd nf : Nat) (k : Nat → Tok) (v : Nat → Value) (bpc ffc kind wanted : Int) (t1 t2 t3 t4 : Tok) (fat : List Int) (fvs : List Value)
   (dp un : Nat) (gd : Option (List Code)) (env : Env) (outer : List Env) (A₀ : Around) (base h₀ : Heap) (L : Addr) (m : Str → Option Value) (s : Shared) (Q E : Value → Shared → Prop)
    (B : Below A₀ base outer h₀) (F : Fr h₀ L s.heap m) (X : (Mine.hd.heap_1 w.params).In h₀) (N : News h₀ L s.heap ((V, instObj 316 dV) :: (dV, dictOf (volEs w.params k v (.int bpc t1) (.int ffc t2) (.int kind t3) (.ref lf) (.bool true) (.bool false)) nd) :: (lf, listOf fvs.toArray nf) :: rest)) (T : Top Mine.hd.view_39 (looseW Mine.hd.view_39 [Str.ofString "PyFATException", Str.ofString "errno", Str.ofString "PyFat"]) mean mg mb h₀) (hcs : env.scope.kind = .function) (hfr : env.frame = some L)
    (hV : @Ne Nat V dV ∧ @Ne Nat V lf ∧ @Ne Nat dV lf) (hr1 : ∀ p ∈ rest, p.1 ≠ V) (hr2 : ∀ p ∈ rest, p.1 ≠ dV) (hr3 : ∀ p ∈ rest, p.1 ≠ lf)
    (hfat : IntsAre fvs fat) (hk : Kind kind) (hlen : 3 ≤ fat.length ∧ fat.length ≤ 60) (hffc : 0 ≤ ffc ∧ ffc < fat.length) (hbpc : 1 ≤ bpc ∧ bpc ≤ 40) (hwt : 0 ≤ wanted ∧ wanted ≤ 4000)
    (hdp : dp + 8 < recursionLimit) (hun : un + 60 < cLine)
    (hlack : ((scan fat ffc.toNat fat.length).length : Int) < numOf wanted bpc)
    (hraise : ∀ g e h' tk' t, Fr h₀ L g m → Flown g (env :: outer) e (.int 28 t) ((V, instObj 316 dV) :: (dV, dictOf (volEs w.params k v (.int bpc t1) (.int ffc t2) (.int kind t3) (.ref lf) (.bool true) (.bool false)) nd) :: (lf, listOf fvs.toArray nf) :: rest) h' → E (.ref e) { s with heap := h', toks := tk' }) :
      wpAny (model PySem.Challenge.rw_jr0029_01.row.prog w) (arTop dp un gd env outer) (call (.ref 220) [.ref V, .int wanted t4]) Q E s := by
  refine wpAny_call ?_
  k_dflt (walk_at "my_enter2")
  rename Fr h₀ L _ m => FG
  rename Below (arTop dp un gd env outer) base _ _ => BG
  have hmax : 4079 ≤ maxv kind := by rcases hk with rfl | rfl | rfl <;> decide
  have hbad : 4087 ≤ badv kind := by rcases hk with rfl | rfl | rfl <;> decide
  have hnum := numOf_bounds hwt.1 hwt.2 hbpc.1
  have hfl := hfat.length
  obtain ⟨ff, rfl⟩ : ∃ ff : Nat, ffc = (ff : Int) := ⟨ffc.toNat, by omega⟩
  have eff : (ff : Int).toNat = ff := by omega
  simp only [eff] at hlack
  obtain ⟨nn, hnn⟩ : ∃ nn : Nat, numOf wanted bpc = (nn : Int) := ⟨(numOf wanted bpc).toNat, by omega⟩
  have hnd : -((-wanted).fdiv bpc) = (nn : Int) := hnn
  rw [hnn] at hlack hnum
  (repeat' ((fail_if_success (with_reducible show wpAny _ _ (pyIter (Value.ref _)) _ _ _)); (first | (k_unfold; (try dsimp only)) | (k_end; wrow_close) | walk1 | (dsimp only; walk1) | ((dsimp only [List.nil_append, List.cons_append]); walk1) | (leave1; (try dsimp only)) | fail "no step")))
  refine wpAny_For ?_
  (repeat' ((fail_if_success (with_reducible show wpAny _ _ (pyIter (Value.ref _)) _ _ _)); (first | (k_unfold; (try dsimp only)) | (k_end; wrow_close) | walk1 | (dsimp only; walk1) | ((dsimp only [List.nil_append, List.cons_append]); walk1) | (leave1; (try dsimp only)) | fail "no step")))
  rename Fr _ _ _ _ => F1
  rename News _ _ _ _ => N1
  rename IsRange _ _ _ _ _ _ _ _ => hR
  rename (_ ∧ _ ∧ _ ∧ AllLt _ rest) => hlt
  rename_i lfc _ _ _ _ _ _ _ _ _ _
  have hr4 : ∀ p ∈ rest, p.1 ≠ lfc := fun p hp => Nat.ne_of_lt (kst_ltOf hlt.2.2.2 p hp)
  have hlV1 : @Ne Nat lfc V := Nat.ne_of_gt hlt.1
  have hlV2 : @Ne Nat lfc dV := Nat.ne_of_gt hlt.2.1
  have hlV3 : @Ne Nat lfc lf := Nat.ne_of_gt hlt.2.2.1
  obtain ⟨hV1, hV2, hV3⟩ := hV
  have hsz : (fat.length : Int) = (ff : Int) + ((fat.length - ff : Nat) : Int) := by omega
  refine wpAny_mono (iter_elseR (n := fat.length - ff) (fun i m₁ nx => (∃ us n, nx = (lfc, listOf us.toArray n) :: (V, instObj 316 dV) :: (dV, dictOf (volEs w.params k v (.int bpc t1) (.int (ff : Int) t2) (.int kind t3) (.ref lf) (.bool true) (.bool false)) nd) :: (lf, listOf fvs.toArray nf) :: rest ∧ IntsAre us (scan fat ff (ff + i))) ∧ m₁ (Str.ofString "size") = some (.int wanted t4)
      ∧ m₁ (Str.ofString "self") = some (.ref V) ∧ m₁ (Str.ofString "erase") = some (.bool false) ∧ (∃ t, m₁ (Str.ofString "free_clus") = some (.int 0 t)) ∧ (∃ t, m₁ (Str.ofString "min_clus") = some (.int 2 t)) ∧ (∃ t, m₁ (Str.ofString "max_clus") = some (.int (maxv kind) t)) ∧ (∃ t, m₁ (Str.ofString "num_clusters") = some (.int (nn : Int) t)) ∧ m₁ (Str.ofString "free_clusters") = some (.ref lfc)) rfl rfl rfl hR (small_up (by omega) (by omega) (by omega) (by omega)) (size_up hsz) F1 N1 ?hj ?turn ?done) (fun _ _ h => h) (fun _ _ h => h.elim)
  case hj =>
    refine ⟨⟨_, _, rfl, ?_⟩, rfl, rfl, rfl, ⟨_, rfl⟩, ⟨_, rfl⟩, ⟨_, rfl⟩, ⟨_, congrArg (fun z => some (Value.int z _)) hnd⟩, rfl⟩
    · rw [Nat.add_zero, scan_start]; exact .nil
  case turn =>
    rintro i t m₁ nx h tk1 I oI m₂ hi9 hoff ⟨⟨us, n, rfl, hus⟩, k0, k1, k2, ⟨u3, k3⟩, ⟨u4, k4⟩, ⟨u5, k5⟩, ⟨u6, k6⟩, k7⟩ hx hy F₂ N₂
    have k0 := (hy (Str.ofString "size") (by decide)).trans k0
    have k1 := (hy (Str.ofString "self") (by decide)).trans k1
    have k2 := (hy (Str.ofString "erase") (by decide)).trans k2
    have k3 := (hy (Str.ofString "free_clus") (by decide)).trans k3
    have k4 := (hy (Str.ofString "min_clus") (by decide)).trans k4
    have k5 := (hy (Str.ofString "max_clus") (by decide)).trans k5
    have k6 := (hy (Str.ofString "num_clusters") (by decide)).trans k6
    have k7 := (hy (Str.ofString "free_clusters") (by decide)).trans k7
    clear hy
    have hI1 : @Ne Nat I lfc := fun e => hoff (lfc, _) (.head _) e.symm
    have hI2 : @Ne Nat I V := fun e => hoff (V, _) (.tail _ (.head _)) e.symm
    have hI3 : @Ne Nat I dV := fun e => hoff (dV, _) (.tail _ (.tail _ (.head _))) e.symm
    have hI4 : @Ne Nat I lf := fun e => hoff (lf, _) (.tail _ (.tail _ (.tail _ (.head _)))) e.symm
    have hr5 : ∀ p ∈ rest, p.1 ≠ I := fun p hp => hoff p (.tail _ (.tail _ (.tail _ (.tail _ hp))))
    have e1 : ((ff : Int) + (i : Int)).toNat = ff + i := by omega
    have hul := hus.length
    have hl9 : (scan fat ff (ff + i)).length < nn := by
      have := scan_le (fat := fat) (a := ff) (p := ff + i) (q := fat.length) (by omega)
      omega
    refine wpAny_passesOwn (by passes_own) ?_
    (repeat' ((fail_if_success (with_reducible show wpAny _ _ (pyIter (Value.ref _)) _ _ _)); (first | (k_unfold; (try dsimp only)) | (k_end; wrow_close) | walk1 | (dsimp only; walk1) | ((dsimp only [List.nil_append, List.cons_append]); walk1) | (leave1; (try dsimp only)) | fail "no step")))
    · have e2 : scan fat ff (ff + (i + 1)) = scan fat ff (ff + i) := scan_no (p := ff + i) (fun hq => by omega)
      refine ⟨_, _, _, _, rfl, F₂, N₂, hoff, ⟨_, _, rfl, ?_⟩, k0, k1, k2, ⟨_, k3⟩, ⟨_, k4⟩, ⟨_, k5⟩, ⟨_, k6⟩, k7⟩
      rw [e2]; exact hus
    · exfalso; omega
    · exfalso; omega
    · exfalso; omega
    all_goals (
      have hz : ¬ (ff : Int) + (i : Int) < 2 := by assumption
      rw [e1] at *)
    rotate_left 2
    · have e2 : scan fat ff (ff + (i + 1)) = scan fat ff (ff + i) := scan_no (p := ff + i) (fun hq => by assumption)
      refine ⟨_, _, _, _, rfl, F₂, N₂, hoff, ⟨_, _, rfl, ?_⟩, k0, k1, k2, ⟨_, k3⟩, ⟨_, k4⟩, ⟨_, k5⟩, ⟨_, k6⟩, k7⟩
      rw [e2]; exact hus
    all_goals (
      have e2 : scan fat ff (ff + (i + 1)) = scan fat ff (ff + i) ++ [((ff + i : Nat) : Int)] := scan_yes (p := ff + i) (by omega) (by omega) (by assumption)
      rename Fr _ _ _ (fun y => if y = Str.ofString "free_clusters" then _ else _) => F5
      rename News _ _ _ ((_, PySem.W.listOf #[_] 0) :: _) => N5
      refine ⟨_, _, _, _, rfl, F5, fun q hq => N5 q (.tail _ hq), ?_, ⟨_, _, by rw [List.push_toArray], ?_⟩, k0, k1, k2, ⟨_, k3⟩, ⟨_, k4⟩, ⟨_, k5⟩, ⟨_, k6⟩, rfl⟩
      · exact fun p hp => by
          rcases List.mem_cons.mp hp with rfl | hp
          · exact hI1.symm
          · exact hoff p (.tail _ hp)
      · rw [e2]; exact IntsAre.append hus (.cons _ _ .nil))
  case done =>
    rintro m₁ nx h tk1 ⟨⟨us, n, rfl, hus⟩, k0, k1, k2, ⟨u3, k3⟩, ⟨u4, k4⟩, ⟨u5, k5⟩, ⟨u6, k6⟩, k7⟩ F₂ N₂
    have hul := hus.length
    have hsl := scan_length_le fat ff (ff + (fat.length - ff))
    (try clear F1); (try clear N1)
    have hb0 : 0 ≤ ((scan fat ff (ff + (fat.length - ff))).length : Int) * bpc := Int.mul_nonneg (by omega) (by omega)
    have hb1 : ((scan fat ff (ff + (fat.length - ff))).length : Int) * bpc ≤ 60 * 40 := Int.mul_le_mul (by omega) (by omega) (by omega) (by omega)
    (repeat' ((fail_if_success (with_reducible show wpAny _ _ (joinParts _ (evalEach [] _)) _ _ _)); (fail_if_success (with_reducible show wpAny _ _ (pyIter (Value.ref _)) _ _ _)); (first | (k_unfold; (try dsimp only)) | (k_end; wrow_close) | walk1 | (dsimp only; walk1) | ((dsimp only [List.nil_append, List.cons_append]); walk1) | (leave1; (try dsimp only)) | fail "no step")))
    k_here
    refine joinParts_nilE ?_
    refine joinParts_nil ?_ ?hz
    case hz => exact (fits_msg (lit100 (by decide +kernel)) (KT.len_num (by omega) (by omega)) (lit100 (by decide +kernel)) (KT.len_num (by omega) (by omega)) (lit100 (by decide +kernel)))
    generalize Str.empty ++ _ ++ _ ++ _ ++ _ ++ _ = msg
    (repeat' ((fail_if_success (with_reducible show wpAny _ _ (pyIter (Value.ref _)) _ _ _)); (first | (k_unfold; (try dsimp only)) | (k_end; wrow_close) | walk1 | (dsimp only; walk1) | ((dsimp only [List.nil_append, List.cons_append]); walk1) | (leave1; (try dsimp only)) | fail "no step")))
    · exact excAt_of (by k_asm) (by k_asm) (by assumption)
    · rename News _ _ _ (_ :: _ :: _ :: _ :: _) => N9
      rename Fr _ _ _ (fun y => if y = Str.ofString "free_space" then _ else _) => F9
      rename ExcO _ _ _ => hx9
      rename _ ≠ _ => ne2
      rename Heap.get? _ _ = none => ne3
      rename ∀ p : Addr × Obj, p ∈ _ → p.1 ≠ _ => ne1
      refine raiseLoopD2 BG F9 (fun q hq => N9 q (.tail _ hq)) (fun q hq => ne1 q (.tail _ hq)) ne2 ne3 hx9 rfl ?_ ?hk9
      case hk9 => rfl
      intro h2 fl
      exact hraise _ _ _ _ _ FG fl
end
end
section
theorem rst_C1 : True := by w_top off; trivial
section
variable {M : Model} {A : Around} {E : Value → Shared → Prop} {s : Shared} {h₀ : Heap} {L a : Addr} {news : List (Addr × Obj)} {cn : Str} {cs : Scope} {cd : Value}
/-- a name that lies in a cell of the law's own frame -/
theorem ldc {x : Str} {pos : Pos} {c : Addr} {o : Obj} {v : Value} {Q : Value → Shared → Prop} (N : News h₀ L s.heap news) (hc : (cellsFrom (L + 1) cs.names []).lookup x = some c) (hm : (c, o) ∈ news) (hd : o.data = .cell (some v)) (h : Q v s)
    (hk : cs.kind = .function) (hx : (envOfC cn cs L a cd).kindOf x = some .cell) (hn : (x == ("__debug__" : Str)) = false) :
    wpAny M A (eval (.Name x pos) (envOfC cn cs L a cd)) Q E s := wpAny_Name (wpAny_loadName_cell hk hx hc ⟨o, N.get hm, hd⟩ h) hn
end
end
section
theorem rst_H2 : True := by w_top off; trivial
/-- the law's body and scope, taken from the head, with the claim that is left of it -/
def LawGoal (body : List Stmt) (scope : Scope) : Prop :=
  ∀ (w : World) (mean : ExcName → Option Value) (mg mb : Str → Option Value) (l L a : Addr) (vs : List Value) (ns : List Int) (dp un : Nat) (gd : Option (List Code)) (cd : Value) (A₀ : Around) (h₀ : Heap) (m : Str → Option Value) (s : Shared) (oS oM oT oF : Obj) (A : Around), A = arTop dp un gd (envOfC (Str.ofString "law") scope L a cd) [] →
    Below A₀ h₀ [] h₀ → Fr h₀ L s.heap m → (Mine.hd.heap_1 w.params).In h₀ → News h₀ L s.heap [(L + 1 + 1 + 1 + 1, oF), (L + 1 + 1 + 1, oT), (L + 1 + 1, oM), (L + 1, oS)] →
    Top Mine.hd.view_39 (looseW Mine.hd.view_39 [Str.ofString "PyFATException", Str.ofString "errno", Str.ofString "PyFat"]) mean mg mb h₀ →
    oS.data = .cell (some (.ref l)) → oM.data = .cell none → oT.data = .cell none → oF.data = .cell none → h₀.IsList l vs.toArray → IntsAre vs ns → ns.length ≤ 63 → dp + 20 < recursionLimit → un + 200 < cLine → AllBare s.gens →
    wpAny (model PySem.Challenge.rw_jr0029_01.row.prog w) A (execs body (envOfC (Str.ofString "law") scope L a cd)) (fun f s' => f = .ret (.bool true) ∧ (∀ b o, h₀.get? b = some o → s'.heap.get? b = some o) ∧ s'.os = s.os ∧ AllBare s'.gens) (fun _ _ => False) s
set_option linter.all false in
noncomputable def lawPart : (body : List Stmt) ×' (scope : Scope) ×' (LawGoal body scope → PySem.Challenge.rw_jr0029_01.Holds) 
  := ⟨_, _, fun H => (by
    w_on
    refine holds_law said0 (fun said => ?_)
    refine holds_open (q := hd.view_39) (loose := [Str.ofString "PyFATException", Str.ofString "errno", Str.ofString "PyFat"]) (Xt := fun s => xlAt hd.view_39 [] s && recOk (RowW.records (OpenRow.toRowW (OpenLaw.row PySem.Challenge.rw_jr0029_01))) s) (XP := XL hd.view_39 []) (Yf := Hook.obs (kHook Mine.hd.heap_1 asL asE)) (Ya := Hook.val (kHook Mine.hd.heap_1 asL asE)) (YP := Hook.says (kHook Mine.hd.heap_1 asL asE)) (N := 5372) left (Hook.of (kHook Mine.hd.heap_1 asL asE)) (Hook.keeps (kHook Mine.hd.heap_1 asL asE)) (fun s e => xl_of s (Bool.and_eq_true_iff.mp e).1) XL.keeps (by rfl) (by rfl) (by rfl) (fun s e => recFacts_of (Bool.and_eq_true_iff.mp e).2) (by rfl) (by first | assumption | decide +kernel) (by decide +kernel) ⟨rfl, rfl, rfl, rfl, rfl, by decide +kernel⟩ ?hw ?hc
    case hw => w_witness2
    k_fill
    intro w s₀ s₁ mg mb G Y fa o pm cd doc dV kV ho hd hcd hD hmg hg args vals as hpre hlay hrd hwl hlo
    have KX := kIn_of Y
    have X := (Ground.X G).1
    have V := (Ground.X G).2
    refine Ground.open G ?_
    intro T B D TE TW
    try (refine guard_noD D (by decide +kernel) ?_; clear D)
    wrow_args hpre hlay hrd hwl hlo
    first | refine callC_kw (enter_call ?_) | refine enter_call ?_
    w_top on
    have K0 := below_caller (Top.heap T)
    w_call any ho hd hcd hD T F
    clear hd hcd hD
    k_drop
    refine wpAny_noRaise ?_
    rename Fr _ _ _ _ => F0
    rename News _ _ _ _ => N0
    rename Below _ _ _ _ => B0
    rename Top _ _ _ _ _ _ => T0
    rename Frag.In _ _ => X0
    rename CellsAre _ _ _ => C0
    rename Heap.IsList _ _ _ => L0
    rename IntsAre _ _ => I0
    rename ¬ _ < _ => H63
    clear C0
    dsimp only at F0 N0 ⊢
    rename Obj.data _ = Data.cell (bindC _ _ _ (Str.ofString "script")) => dS
    rename Obj.data _ = Data.cell (bindC _ _ _ (Str.ofString "marks")) => dM
    rename Obj.data _ = Data.cell (bindC _ _ _ (Str.ofString "table")) => dT
    rename Obj.data _ = Data.cell (bindC _ _ _ (Str.ofString "free")) => dF
    replace dS : Obj.data _ = Data.cell (some (Value.ref _)) := dS
    replace dM : Obj.data _ = Data.cell none := dM
    replace dT : Obj.data _ = Data.cell none := dT
    replace dF : Obj.data _ = Data.cell none := dF
    (try clear_value qk); (try clear_value ek)
    have Hn : _ ≤ 63 := Nat.le_of_not_lt (fun h => H63 (Int.ofNat_lt.mpr h))
    rename Shared => s1
    refine wpAny_mono (H _ _ _ _ _ s1.heap.objs.size _ _ _ _ _ _ _ _ s1.heap _ _ _ _ _ _ _ rfl B0 F0 X0 N0 T0 dS dM dT dF L0 I0 Hn ?g1 ?g2 ?g3) ?hq ?he
    case g1 => decide
    case g2 => decide
    case he => exact fun _ _ h => h.elim
    case g3 => exact AllBare.of_eq (by assumption)
    case hq =>
      rintro f s' ⟨rfl, hk9, hos9, hb9⟩
      refine ⟨.inl ⟨.bool true, .bool true, [], rfl, ?_, .bool _, ?_, unshared_nil⟩, .of_keep hk9, hos9, hb9⟩
      · exact fun _ => rfl
      · exact postW_of (by wrow_shape) (by wtm_val) (by w_fin))⟩
end
section
theorem rst_K1 : True := by w_top off; trivial
theorem take_claim (w : World) (mean : ExcName → Option Value) (mg mb : Str → Option Value) (news : List (Addr × Obj)) (l : Addr) (vs : List Value) (ns : List Int) (k many : Int) (tkk tm : Tok)
   (dp un : Nat) (gd : Option (List Code)) (env : Env) (outer : List Env) (A₀ : Around) (base h₀ : Heap) (L : Addr) (m : Str → Option Value) (s : Shared) (Q E : Value → Shared → Prop)
    (B : Below A₀ base outer h₀) (F : Fr h₀ L s.heap m) (X : (Mine.hd.heap_1 w.params).In h₀) (N : News h₀ L s.heap news) (T : Top Mine.hd.view_39 (looseW Mine.hd.view_39 [Str.ofString "PyFATException", Str.ofString "errno", Str.ofString "PyFat"]) mean mg mb h₀) (hcs : env.scope.kind = .function) (hfr : env.frame = some L)
    (hl : base.IsList l vs.toArray) (hi : IntsAre vs ns) (hn : ns.length ≤ 63) (hk0 : 0 ≤ k) (hk1 : k < 100) (hm0 : 0 < many) (hm1 : many < 2000)
    (hdp : dp + 3 < recursionLimit) (hun : un + 20 < cLine)
    (hret : ∀ t h' tk', Fr h₀ L h' m → News h₀ L h' news → Q (.int (take ns k many) t) { s with heap := h', toks := tk' }) :
      wpAny (model PySem.Challenge.rw_jr0029_01.row.prog w) (arTop dp un gd env outer) (call (.ref 341) [.ref l, .int k tkk, .int many tm]) Q E s := by
  refine wpAny_call ?_
  k_dflt (walk_at "my_enter")
  (repeat' ((fail_if_success (with_reducible show wpAny _ _ (pyIter (Value.ref _)) _ _ _)); (first | (k_unfold; (try dsimp only)) | (k_end; wrow_close) | walk1 | (dsimp only; walk1) | ((dsimp only [List.nil_append, List.cons_append]); walk1) | (leave1; (try dsimp only)) | fail "no step")))
  · have e : (ns.getD (k.fmod (ns.length : Int)).toNat 0 + 7 * k * k.fdiv (ns.length : Int)).fmod many = take ns k many := by
      have e0 : ¬ ns = [] := by
        rename (0 < ns.length) => h0
        intro e
        rw [e] at h0
        exact Nat.lt_irrefl _ h0
      unfold take
      rw [if_neg e0, Int.fmod_eq_emod_of_nonneg _ (by omega), Int.fmod_eq_emod_of_nonneg _ (by omega), Int.fdiv_eq_ediv_of_nonneg _ (by omega)]
    rw [e]
    exact hret _ _ _ (by k_asm) (by k_asm)
  · have e : (13 * k + 5).fmod many = take ns k many := by
      have e0 : ns = [] := by
        rename (¬ (0 < ns.length)) => h0
        exact List.eq_nil_of_length_eq_zero (by omega)
      unfold take
      rw [if_pos e0, Int.fmod_eq_emod_of_nonneg _ (by omega)]
    rw [e]
    exact hret _ _ _ (by k_asm) (by k_asm)
end
section
theorem rst_C2 : True := by w_top off; trivial
open LCg LCt
/-- the end of one turn: the ledger stands as it was -/
def Turned (h₀ : Heap) (L : Addr) (m : Str → Option Value) (s : Shared) (all : List (Addr × Obj)) (R : Value → Prop) (y : Value) (s' : Shared) : Prop :=
  ∃ h' tk', s' = { s with heap := h', toks := tk' } ∧ Fr h₀ L h' m ∧ News h₀ L h' all ∧ R y
theorem Turned.mk {h₀ : Heap} {L : Addr} {m : Str → Option Value} {s : Shared} {all : List (Addr × Obj)} {R : Value → Prop} {y : Value} {h' : Heap} {tk' : Nat} (F : Fr h₀ L h' m) (N : News h₀ L h' all) (r : R y) :
    Turned h₀ L m s all R y { s with heap := h', toks := tk' } := ⟨h', tk', rfl, F, N, r⟩
theorem comp_ind {prog : Program} {w : World} {A : Around} {h₀ : Heap} {L : Addr} {m : Str → Option Value} {env : Env} {elt : Expr} {x : Str} {scope : Scope} {cl : List (Str × Addr)} {s : Shared} {S : List (Addr × Obj) → Prop} {P : Nat → Value → Prop}
    {Fin : List Value → List (Addr × Obj) → Prop} {news : List (Addr × Obj)} {n : Nat} (G : Nat → List Value → Prop) (hS : S news)
    (hstep : ∀ i v ys I oI C oC D m₂ h tk (E' : Value → Shared → Prop), i < n → P i v → G i ys → NsObj oC m₂ → m₂ x = some v → Fr h₀ L h m → News h₀ L h ((I, oI) :: (C, oC) :: (D, lst ys) :: news) →
      wpAny (model prog w) A (eval elt (compEnvC scope cl C env)) (Turned h₀ L m { s with heap := h, toks := tk } ((I, oI) :: (C, oC) :: (D, lst ys) :: news) (fun y => G (i + 1) (ys ++ [y]))) E' { s with heap := h, toks := tk })
    (hfin : ∀ ys, G n ys → Fin ys news) (h0 : G 0 []) : CompRest prog w A h₀ L m env elt x scope cl s S P Fin n 0 [] news := by
  have go : ∀ k i ys, i + k = n → G i ys → CompRest prog w A h₀ L m env elt x scope cl s S P Fin k i ys news := by
    intro k
    induction k with
    | zero => intro i ys hi g; exact CompRest.zero (hfin ys (by rw [show n = i from hi.symm]; exact g))
    | succ k ih =>
      intro i ys hi g
      refine CompRest.succ ?_
      intro v I oI C oC D m₂ h tk E' hP hC hx F N off ne
      refine wpAny_mono (hstep i v ys I oI C oC D m₂ h tk E' (by omega) hP g hC hx F N) (fun y s' hy => ?_) fun _ _ e => e
      obtain ⟨h', tk', rfl, F', N', r⟩ := hy
      exact CompEnd.intro F' N' news (fun p hp => hp) off hS (ih (i + 1) (ys ++ [y]) (by omega) r)
  exact go n 0 [] (by omega) h0
theorem comp_indT {prog : Program} {w : World} {A : Around} {h₀ : Heap} {L : Addr} {m : Str → Option Value} {env : Env} {ct elt : Expr} {x : Str} {scope : Scope} {cl : List (Str × Addr)} {s : Shared} {S : List (Addr × Obj) → Prop} {P : Nat → Value → Prop}
    {Fin : List Value → List (Addr × Obj) → Prop} {news : List (Addr × Obj)} {n : Nat} (G : Nat → List Value → Prop) (hS : S news)
    (hstep : ∀ i v ys I oI C oC D m₂ h tk (E' : Value → Shared → Prop), i < n → P i v → G i ys → NsObj oC m₂ → m₂ x = some v → Fr h₀ L h m → News h₀ L h ((I, oI) :: (C, oC) :: (D, lst ys) :: news) →
      wpAny (model prog w) A (isTrue ct (compEnvC scope cl C env) (eval ct (compEnvC scope cl C env))) (fun ok s' => if ok = true then
        wpAny (model prog w) A (eval elt (compEnvC scope cl C env)) (Turned h₀ L m { s with heap := h, toks := tk } ((I, oI) :: (C, oC) :: (D, lst ys) :: news) (fun y => G (i + 1) (ys ++ [y]))) E' s'
        else Turned h₀ L m { s with heap := h, toks := tk } ((I, oI) :: (C, oC) :: (D, lst ys) :: news) (fun _ => G (i + 1) ys) Value.none s') E' { s with heap := h, toks := tk })
    (hfin : ∀ ys, G n ys → Fin ys news) (h0 : G 0 []) : CompRestT prog w A h₀ L m env ct elt x scope cl s S P Fin n 0 [] news := by
  have go : ∀ k i ys, i + k = n → G i ys → CompRestT prog w A h₀ L m env ct elt x scope cl s S P Fin k i ys news := by
    intro k
    induction k with
    | zero => intro i ys hi g; exact CompRestT.zero (hfin ys (by rw [show n = i from hi.symm]; exact g))
    | succ k ih =>
      intro i ys hi g
      refine CompRestT.succ ?_
      intro v I oI C oC D m₂ h tk E' hP hC hx F N off ne
      refine wpAny_mono (hstep i v ys I oI C oC D m₂ h tk E' (by omega) hP g hC hx F N) (fun ok s' hy => ?_) fun _ _ e => e
      cases ok with
      | true =>
        simp only [if_true] at hy ⊢
        refine wpAny_mono hy (fun y s' hy => ?_) fun _ _ e => e
        obtain ⟨h', tk', rfl, F', N', r⟩ := hy
        exact CompEnd.intro F' N' news (fun p hp => hp) off hS (ih (i + 1) (ys ++ [y]) (by omega) r)
      | false =>
        simp only [Bool.false_eq_true, if_false] at hy ⊢
        obtain ⟨h', tk', rfl, F', N', r⟩ := hy
        exact CompEnd.intro F' N' news (fun p hp => hp) off hS (ih (i + 1) ys (by omega) r)
  exact go n 0 [] (by omega) h0
theorem execs_cut {M : Model} {A : Around} {E : Value → Shared → Prop} {Q : Flow → Shared → Prop} {env : Env} : ∀ (a b : List Stmt) (s : Shared),
    wpAny M A (execs a env) (fun f s' => match f with | .next => wpAny M A (execs b env) Q E s' | f => Q f s') E s → wpAny M A (execs (a ++ b) env) Q E s := by
  intro a b
  suffices hh : execs (a ++ b) env = (do match ← execs a env with | .next => execs b env | f => pure f) by
    intro s h
    rw [hh]
    refine wpAny_bind (wpAny_mono h (fun f s' hf => ?_) fun _ _ e => e)
    cases f <;> first | exact hf | exact wpAny_pure hf
  induction a with
  | nil => rw [PySem.execs_nil]; rfl
  | cons st a ih =>
    rw [List.cons_append, PySem.execs_cons, PySem.execs_cons, ih, LawfulMonad.bind_assoc]
    refine congrArg _ (funext fun f => ?_)
    cases f <;> rfl
section
variable {M : Model} {A : Around} {E : Value → Shared → Prop} {s : Shared} {h₀ : Heap} {L a : Addr} {m : Str → Option Value} {cn : Str} {cs : Scope} {cd : Value}
  {x : Str} {v : Value} {Q : Unit → Shared → Prop} {news : List (Addr × Obj)} {g : Obj → List (Addr × Obj)} {c : Addr} {o : Obj} {v₀ : Option Value}
/-- a name that lies in a cell of the law's own frame is set -/
theorem stcC (F : Fr h₀ L s.heap m) (N : News h₀ L s.heap news) (hc : (cellsFrom (L + 1) cs.names []).lookup x = some c) (U : UpdF c o news g) (hd : o.data = .cell v₀)
    (h : ∀ h' o', Fr h₀ L h' m → News h₀ L h' (g o') → o'.data = .cell (some v) → Q () { s with heap := h' })
    (hk : cs.kind = .function) (hx : (envOfC cn cs L a cd).kindOf x = some .cell) : wpAny M A (storeName (envOfC cn cs L a cd) x v) Q E s := by
  obtain ⟨own, rest, rfl, hg, h1, h2⟩ := U.split
  have hmem := N (c, o) (List.mem_append_right _ (.head _))
  refine wpAny_storeName_cell hk hx hc ⟨o, hmem.1, hd⟩ fun h' hv hs => ?_
  obtain ⟨o', ho', hd'⟩ := hv
  refine h h' o' ⟨F.ns.sameBut hs (Ne.symm hmem.2.1), fun b ob e => (hs.2 b (fun q => ?_)).trans (F.keep b ob e), F.above⟩ (hg o' ▸ N.setAt h1 h2 hs ho') hd'
  rw [q, hmem.2.2] at e; cases e
end
/-- one of three numbers out of a list display -/
theorem three_sub {prog : Program} {w : World} {A : Around} {E : Value → Shared → Prop} {s : Shared} {h₀ : Heap} {L D : Addr} {news : List (Addr × Obj)} {a b c k : Int} {t1 t2 t3 u : Tok} {value slice : Expr} {n : Nat} {Q : Value → Shared → Prop} (N : News h₀ L s.heap news)
    (hm : (D, listOf #[.int a t1, .int b t2, .int c t3] n) ∈ news) (hk : 0 ≤ k ∧ k < 3) (h : ∀ x t, x = a ∨ x = b ∨ x = c → Q (.int x t) s)
    (hs : subscripted slice false (.ref D) (.int k u) = operate [.ref D, .int k u] (getItem (.ref D) (.int k u)) := by with_unfolding_all rfl) :
    wpAny (model prog w) A (subscriptTail value slice (.ref D) (.int k u)) Q E s := by
  refine ksa_sub (vs := [.int a t1, .int b t2, .int c t3]) (ns := [a, b, c]) N hm (.cons _ _ (.cons _ _ (.cons _ _ .nil))) hk.1 hk.2 (Int.lt_trans hk.2 (by decide)) (fun t => h _ t ?_) hs
  have : k = 0 ∨ k = 1 ∨ k = 2 := by omega
  rcases this with rfl | rfl | rfl
  · exact .inl rfl
  · exact .inr (.inl rfl)
  · exact .inr (.inr rfl)
/-- a subscript whose base is a temporary ends as one whose base is a name -/
theorem sub_temp {prog : Program} {w : World} {A : Around} {E : Value → Shared → Prop} {s : Shared} {value slice : Expr} {o i : Value} {n : Str} {p : Pos} {Q : Value → Shared → Prop}
    (h : wpAny (model prog w) A (subscriptTail (.Name n p) slice o i) Q E s) : wpAny (model prog w) A (subscriptTail value slice o i) Q E s := by
  have e1 : subscriptTail (.Name n p) slice o i = (do let b ← getitemInPython o; subscripted slice b o i) := by
    unfold subscriptTail
    refine congrArg _ (funext fun b => ?_)
    show (subscripted slice b o i >>= fun r => (pure () >>= fun _ => pure r)) = _
    simp only [pure_bind, bind_pure]
  have e2 : subscriptTail value slice o i = ((do let b ← getitemInPython o; subscripted slice b o i) >>= fun r => letTemporaryGo value o r >>= fun _ => pure r) := by
    unfold subscriptTail
    rw [LawfulMonad.bind_assoc]
  rw [e1] at h
  rw [e2]
  exact wpAny_bind (wpAny_mono h (fun r s' hr => wpAny_bind (wpAny_letTemporaryGo (wpAny_pure hr))) fun _ _ e => e)
end
section
theorem rst_U0 : True := by w_top off; trivial
open LCg LCt
/-- the ledger's addresses are pairwise unlike -/
structure Dis (l : List (Addr × Obj)) : Prop where
  out : l.Pairwise (fun p q => p.1 ≠ q.1)
theorem Dis.cons {p : Addr × Obj} {l : List (Addr × Obj)} (D : Dis l) (h : ∀ q ∈ l, q.1 ≠ p.1) : Dis (p :: l) := ⟨List.pairwise_cons.mpr ⟨fun q hq => (h q hq).symm, D.out⟩⟩
theorem Dis.tail {p : Addr × Obj} {l : List (Addr × Obj)} (D : Dis (p :: l)) : Dis l := ⟨(List.pairwise_cons.mp D.out).2⟩
theorem Dis.head {p : Addr × Obj} {l : List (Addr × Obj)} (D : Dis (p :: l)) : ∀ q ∈ l, q.1 ≠ p.1 := fun q hq => ((List.pairwise_cons.mp D.out).1 q hq).symm
theorem Dis.put {a : Addr} {o o' : Obj} {l : List (Addr × Obj)} (D : Dis ((a, o) :: l)) : Dis ((a, o') :: l) := Dis.cons D.tail D.head
theorem Dis.sub {k l : List (Addr × Obj)} (D : Dis l) (h : List.Sublist k l) : Dis k := ⟨List.Pairwise.sublist h D.out⟩
theorem Dis.perm {k l : List (Addr × Obj)} (D : Dis l) (h : List.Perm l k) : Dis k := ⟨(h.pairwise_iff (fun h => Ne.symm h)).mp D.out⟩
theorem off1_all {D : Addr} {l : List (Addr × Obj)} (h : Off1 D l) : ∀ p ∈ l, p.1 ≠ D := by
  induction l with
  | nil => intro p hp; exact nomatch hp
  | cons q l ih =>
    intro p hp
    rcases List.mem_cons.mp hp with rfl | hp
    · exact h.1
    · exact ih h.2 p hp
end
section
theorem rst_L3 : True := by w_top off; trivial
theorem not_list_itR (x y : Int) (a : Array Value) (c : Nat) : itR x y ≠ listOf a c := by
  intro e
  have h : Data.fields #[rawInt x, rawInt y, rawInt 1] = (listOf a c).data := congrArg Obj.data e
  revert h
  unfold PySem.W.listOf
  simp
section
variable {prog : Program} {w : World} {A : Around} {s : Shared} {env : Env} {h₀ : Heap} {x : Str} {px : Pos} {body : List Stmt} {R : Result → Shared → Prop}
/-- what a turn must leave behind, where generators may have been made -/
def TurnEG (h₀ : Heap) (L I : Addr) (oI : Obj) (J : (Str → Option Value) → List (Addr × Obj) → Prop) (s s₂ : Shared) : Prop :=
  ∃ h' tk' gens' m' nx, s₂ = { s with heap := h', toks := tk', gens := gens' } ∧ AllBare gens' ∧ Fr h₀ L h' m' ∧ News h₀ L h' ((I, oI) :: nx) ∧ (∀ p ∈ nx, p.1 ≠ I) ∧ J m' nx
def TurnPG (h₀ : Heap) (L I : Addr) (oI : Obj) (J : (Str → Option Value) → List (Addr × Obj) → Prop) (s : Shared) (R : Result → Shared → Prop) (f : Flow) (s₂ : Shared) : Prop :=
  match f with
  | .ret v => R (.ok (.ret v)) s₂
  | .brk => R (.ok .next) s₂
  | _ => TurnEG h₀ L I oI J s s₂
theorem iter_gR {r : Addr} {a₀ b₀ : Int} {t₀ u₀ v₀ : Tok} {n : Nat} {m₀ : Str → Option Value} {news : List (Addr × Obj)} (J : Nat → (Str → Option Value) → List (Addr × Obj) → Prop)
    (hx : env.kindOf x = some .local) (hp : (env.scope.kind == .class || (env.scope.kind == .module && env.locals != env.globals)) = false)
    (hh : A.handled = none) (hr : IsRange s.heap r a₀ b₀ 1 t₀ u₀ v₀) (hsmall : Builtin.Range.small a₀ b₀ 1 = true) (hn : Builtin.Range.rangeSize a₀ b₀ 1 = (n : Int)) (F : Fr h₀ env.locals s.heap m₀) (N : News h₀ env.locals s.heap news) (hj : J 0 m₀ news) (hb : AllBare s.gens)
    (turn : ∀ i t m₁ news₁ h tk gens' I oI m₂, i < n → (∀ a c, oI ≠ listOf a c) → AllBare gens' → (∀ p ∈ news₁, p.1 ≠ I) → J i m₁ news₁ → m₂ x = some (.int (a₀ + (i : Int)) t) → (∀ y, y ≠ x → m₂ y = m₁ y) → Fr h₀ env.locals h m₂ → News h₀ env.locals h ((I, oI) :: news₁) →
      wpAny (model prog w) A (execs body env) (TurnPG h₀ env.locals I oI (J (i + 1)) { s with heap := h, toks := tk, gens := gens' } R) (notedBy (model prog w) A env fun e s' => R (.error e) s') { s with heap := h, toks := tk, gens := gens' })
    (done : ∀ m₁ news₁ h tk gens', AllBare gens' → J n m₁ news₁ → Fr h₀ env.locals h m₁ → News h₀ env.locals h news₁ → R (.ok .next) { s with heap := h, toks := tk, gens := gens' }) :
    wpAny (model prog w) A (pyIter (.ref r)) (fun it s₂ => codeAny (model prog w) A (.forLoop (.Name x px) it body [] env) R s₂) (fun _ _ => False) s := by
  refine wpAny_pyIter_range hr hsmall ?_
  have W : Walks prog w A s.heap.objs.size [s.heap.objs.size] [s.heap.objs.size] n (fun i v => i < n ∧ ∃ t, v = .int (a₀ + i * 1) t)
      (fun i h => IsRangeIter h s.heap.objs.size (a₀ + (i : Nat) * 1) ((n : Int) - (i : Nat)) 1) := (Walks.range hh _ a₀ 1 n).bound
  have hnew : h₀.get? s.heap.objs.size = none := next_is_new F
  have hLne : env.locals ≠ s.heap.objs.size := Nat.ne_of_lt F.ns.lt
  generalize hI : s.heap.objs.size = I at W hnew hLne
  have old : ∀ b o, h₀.get? b = some o → b ≠ I := fun b o e q => by rw [q, hnew] at e; cases e
  refine codeAny_forLoop (fun k s' => ∃ h' tk gens' m' news' i, s' = { s with heap := h', toks := tk, gens := gens' } ∧ AllBare gens' ∧ IsRangeIter h' I (a₀ + (i : Nat) * 1) ((n : Int) - (i : Nat)) 1 ∧ Fr h₀ env.locals h' m' ∧ News h₀ env.locals h' news' ∧ (∀ p ∈ news', p.1 ≠ I) ∧ J i m' news' ∧ i ≤ n ∧ k = n + 1 - i) ?_ (n + 1) ?_
  · rintro k s' ⟨h', tk, gens', m', news', i, rfl, hbg, hst, F', N', ho', hJ, hi, rfl⟩
    have next : ∀ h₁ : Heap, (∀ b o, b ∉ [I] → h'.get? b = some o → h₁.get? b = some o) → Fr h₀ env.locals h₁ m' ∧ News h₀ env.locals h₁ news' := fun h₁ hk₁ =>
      ⟨⟨F'.ns.at' fun o e => hk₁ _ o (fun q => hLne (List.mem_singleton.mp q)) e, fun b o e => hk₁ b o (fun q => old b o e (List.mem_singleton.mp q)) (F'.keep b o e), F'.above⟩, fun p hp => ⟨hk₁ _ _ (fun q => ho' p hp (List.mem_singleton.mp q)) (N' p hp).1, (N' p hp).2⟩⟩
    by_cases hlt : i < n
    · refine W.item i _ _ _ hlt hst fun v h₁ tk₁ hP hst₁ hk₁ => ?_
      obtain ⟨_, t, rfl⟩ := hP
      obtain ⟨F₁, N₁⟩ := next h₁ hk₁
      refine wpAny_assign_Name (wpAny_storeName_local hx F₁.ns (fun h₂ hn₂ hs₂ => ?_) hp)
      have F₂ := F₁.set hn₂ hs₂
      have hst₂ : IsRangeIter h₂ I (a₀ + ((i + 1 : Nat) : Int) * 1) ((n : Int) - ((i + 1 : Nat) : Int)) 1 := (hs₂.2 I fun q => hLne q.symm).trans hst₁
      have e1 : a₀ + (i : Int) * 1 = a₀ + (i : Int) := by rw [Int.mul_one]
      rw [e1] at F₂
      have N₂ : News h₀ env.locals h₂ ((I, itR (a₀ + ((i + 1 : Nat) : Int) * 1) ((n : Int) - ((i + 1 : Nat) : Int))) :: news') := fun p hp => by
        rcases List.mem_cons.mp hp with rfl | hp
        · exact ⟨hst₂, fun q => hLne q.symm, hnew⟩
        · exact (N₁.set hs₂) p hp
      refine wpAny_mono (turn i t m' news' h₂ _ gens' I _ _ hlt (fun a c e => not_list_itR _ _ a c e) hbg ho' hJ (by simp) (fun y hy => by simp [hy]) F₂ N₂) (fun f s₃ h₃ => ?_) fun _ _ e => e
      have fin : TurnEG h₀ env.locals I (itR (a₀ + ((i + 1 : Nat) : Int) * 1) ((n : Int) - ((i + 1 : Nat) : Int))) (J (i + 1)) { s with heap := h₂, toks := tk₁ + 1, gens := gens' } s₃ →
          ∃ m, m < n + 1 - i ∧ ∃ h' tk gens' m' news' i, s₃ = { s with heap := h', toks := tk, gens := gens' } ∧ AllBare gens' ∧ IsRangeIter h' I (a₀ + (i : Nat) * 1) ((n : Int) - (i : Nat)) 1 ∧ Fr h₀ env.locals h' m' ∧ News h₀ env.locals h' news' ∧ (∀ p ∈ news', p.1 ≠ I) ∧ J i m' news' ∧ i ≤ n ∧ m = n + 1 - i := by
        rintro ⟨h'', tk'', gens'', m'', nx, e, hb'', F'', N'', ho'', hJ''⟩
        exact ⟨n + 1 - (i + 1), by omega, h'', tk'', gens'', m'', nx, i + 1, e, hb'', (N'' _ (.head _)).1, F'', fun p hp => N'' p (.tail _ hp), ho'', hJ'', hlt, rfl⟩
      cases f with
      | ret v => exact h₃
      | brk => exact h₃
      | next => exact fin h₃
      | cont => exact fin h₃
    · have hin : i = n := by omega
      subst hin
      refine W.done _ _ _ hst fun h₁ tk₁ hk₁ => ?_
      obtain ⟨F₁, N₁⟩ := next h₁ hk₁
      exact wpAny_execs_nil (done m' news' h₁ tk₁ gens' hbg hJ F₁ N₁)
  · refine ⟨s.heap.push { cls := .type "range_iterator", data := .fields #[rawInt a₀, rawInt (Builtin.Range.rangeSize a₀ b₀ 1), rawInt 1] }, s.toks, s.gens, m₀, news, 0, rfl, hb, ?_, F.push _, (fun p hp => ⟨Heap.get?_push_of_some _ (N p hp).1, (N p hp).2⟩), ?_, hj, Nat.zero_le _, rfl⟩
    · show IsRangeIter _ _ _ _ _
      rw [hn, ← hI]
      simpa using Heap.get?_push_size _ rfl
    · intro p hp q
      have := Heap.lt_size (N p hp).1
      rw [q, ← hI] at this
      exact Nat.lt_irrefl _ this
theorem iter_gL {l : Addr} {items : List Value} {nn : Nat} {m₀ : Str → Option Value} {news : List (Addr × Obj)} (J : Nat → (Str → Option Value) → List (Addr × Obj) → Prop)
    (hx : env.kindOf x = some .local) (hp : (env.scope.kind == .class || (env.scope.kind == .module && env.locals != env.globals)) = false)
    (hh : A.handled = none) (hl : (l, listOf items.toArray nn) ∈ news) (F : Fr h₀ env.locals s.heap m₀) (N : News h₀ env.locals s.heap news) (hj : J 0 m₀ news) (hb : AllBare s.gens)
    (hlJ : ∀ i m₁ news₁, J i m₁ news₁ → (l, listOf items.toArray nn) ∈ news₁)
    (turn : ∀ i v m₁ news₁ h tk gens' I oI m₂, items[i]? = some v → AllBare gens' → (∀ p ∈ news₁, p.1 ≠ I) → J i m₁ news₁ → m₂ x = some v → (∀ y, y ≠ x → m₂ y = m₁ y) → Fr h₀ env.locals h m₂ → News h₀ env.locals h ((I, oI) :: news₁) →
      wpAny (model prog w) A (execs body env) (TurnPG h₀ env.locals I oI (J (i + 1)) { s with heap := h, toks := tk, gens := gens' } R) (notedBy (model prog w) A env fun e s' => R (.error e) s') { s with heap := h, toks := tk, gens := gens' })
    (done : ∀ m₁ news₁ h tk gens', AllBare gens' → J items.length m₁ news₁ → Fr h₀ env.locals h m₁ → News h₀ env.locals h news₁ → R (.ok .next) { s with heap := h, toks := tk, gens := gens' }) :
    wpAny (model prog w) A (pyIter (.ref l)) (fun it s₂ => codeAny (model prog w) A (.forLoop (.Name x px) it body [] env) R s₂) (fun _ _ => False) s := by
  have hol : s.heap.get? l = some (listOf items.toArray nn) := (N _ hl).1
  have hls : s.heap.IsList l items.toArray := ⟨_, hol, rfl, nn, rfl⟩
  have hlt0 : l < s.heap.objs.size := Heap.lt_size hol
  have hne : l ≠ s.heap.objs.size := Nat.ne_of_lt hlt0
  refine wpAny_pyIter_list hls ?_
  have W := Walks.list (prog := prog) (w := w) hh s.heap.objs.size l hne items.toArray
  have hlen : items.toArray.size = items.length := by simp
  rw [hlen] at W
  have hnew : h₀.get? s.heap.objs.size = none := next_is_new F
  have hLne : env.locals ≠ s.heap.objs.size := Nat.ne_of_lt F.ns.lt
  have h00 : Heap.IsListIter (s.heap.push { cls := .type "list_iterator", data := .fields #[.ref l, rawInt 0] }) s.heap.objs.size l 0 := ⟨_, Heap.get?_push_size _ rfl, rfl, rfl⟩
  generalize hI : s.heap.objs.size = I at W hnew hLne h00
  have old : ∀ b o, h₀.get? b = some o → b ≠ I := fun b o e q => by rw [q, hnew] at e; cases e
  refine codeAny_forLoop (fun k s' => ∃ h' tk gens' m' news' i, s' = { s with heap := h', toks := tk, gens := gens' } ∧ AllBare gens' ∧ (h'.IsListIter I l i ∧ h'.IsList l items.toArray) ∧ Fr h₀ env.locals h' m' ∧ News h₀ env.locals h' news' ∧ (∀ p ∈ news', p.1 ≠ I) ∧ J i m' news' ∧ i ≤ items.length ∧ k = items.length + 1 - i) ?_ (items.length + 1) ?_
  · rintro k s' ⟨h', tk, gens', m', news', i, rfl, hbg, hst, F', N', ho', hJ, hi, rfl⟩
    have next : ∀ h₁ : Heap, (∀ b o, b ∉ [I] → h'.get? b = some o → h₁.get? b = some o) → Fr h₀ env.locals h₁ m' ∧ News h₀ env.locals h₁ news' := fun h₁ hk₁ =>
      ⟨⟨F'.ns.at' fun o e => hk₁ _ o (fun q => hLne (List.mem_singleton.mp q)) e, fun b o e => hk₁ b o (fun q => old b o e (List.mem_singleton.mp q)) (F'.keep b o e), F'.above⟩, fun p hp => ⟨hk₁ _ _ (fun q => ho' p hp (List.mem_singleton.mp q)) (N' p hp).1, (N' p hp).2⟩⟩
    by_cases hlt : i < items.length
    · refine W.item i _ _ _ hlt hst fun v h₁ tk₁ hP hst₁ hk₁ => ?_
      obtain ⟨F₁, N₁⟩ := next h₁ hk₁
      refine wpAny_assign_Name (wpAny_storeName_local hx F₁.ns (fun h₂ hn₂ hs₂ => ?_) hp)
      have F₂ := F₁.set hn₂ hs₂
      obtain ⟨⟨oI, hoI, hIc, hId⟩, _⟩ := id hst₁
      have hoI2 : h₂.get? I = some oI := (hs₂.2 I fun q => hLne q.symm).trans hoI
      have N₂ : News h₀ env.locals h₂ ((I, oI) :: news') := fun p hp => by
        rcases List.mem_cons.mp hp with rfl | hp
        · exact ⟨hoI2, fun q => hLne q.symm, hnew⟩
        · exact (N₁.set hs₂) p hp
      refine wpAny_mono (turn i v m' news' h₂ _ gens' I oI _ (by simpa using hP) hbg ho' hJ (by simp) (fun y hy => by simp [hy]) F₂ N₂) (fun f s₃ h₃ => ?_) fun _ _ e => e
      have fin : ∀ s₃, TurnEG h₀ env.locals I oI (J (i + 1)) { s with heap := h₂, toks := tk₁ + 1, gens := gens' } s₃ →
          ∃ m, m < items.length + 1 - i ∧ ∃ h' tk gens' m' news' i, s₃ = { s with heap := h', toks := tk, gens := gens' } ∧ AllBare gens' ∧ (h'.IsListIter I l i ∧ h'.IsList l items.toArray) ∧ Fr h₀ env.locals h' m' ∧ News h₀ env.locals h' news' ∧ (∀ p ∈ news', p.1 ≠ I) ∧ J i m' news' ∧ i ≤ items.length ∧ m = items.length + 1 - i := by
        rintro s₃ ⟨h'', tk'', gens'', m'', nx, e, hb'', F'', N'', ho'', hJ''⟩
        exact ⟨items.length + 1 - (i + 1), by omega, h'', tk'', gens'', m'', nx, i + 1, e, hb'', ⟨⟨oI, (N'' _ (.head _)).1, hIc, hId⟩, ⟨_, (N'' _ (.tail _ (hlJ _ _ _ hJ''))).1, rfl, nn, rfl⟩⟩, F'', fun p hp => N'' p (.tail _ hp), ho'', hJ'', hlt, rfl⟩
      cases f with
      | ret v => exact h₃
      | brk => exact h₃
      | next => exact fin _ h₃
      | cont => exact fin _ h₃
    · have hin : i = items.length := by omega
      subst hin
      refine W.done _ _ _ hst fun h₁ tk₁ hk₁ => ?_
      obtain ⟨F₁, N₁⟩ := next h₁ hk₁
      exact wpAny_execs_nil (done m' news' h₁ tk₁ gens' hbg hJ F₁ N₁)
  · refine ⟨_, s.toks, s.gens, m₀, news, 0, rfl, hb, ⟨h00, hls.at fun o e => Heap.get?_push_of_some _ e⟩, F.push _, (fun p hp => ⟨Heap.get?_push_of_some _ (N p hp).1, (N p hp).2⟩), ?_, hj, Nat.zero_le _, rfl⟩
    intro p hp q
    have := Heap.lt_size (N p hp).1
    rw [q, ← hI] at this
    exact Nat.lt_irrefl _ this
end
end
section
theorem rst_U1 : True := by w_top off; trivial
section
variable {prog : Program} {w : World} {A : Around} {E : Value → Shared → Prop} {s : Shared} {h₀ : Heap} {L : Addr} {m : Str → Option Value} {news : List (Addr × Obj)}
theorem firstMet_take {ns : List Int} (hn : ns.Nodup) : ∀ i, i ≤ ns.length → firstMet (fun i => ns.getD i 0) i = ns.take i := by
  intro i
  induction i with
  | zero => intro _; rw [firstMet_zero, List.take_zero]
  | succ i ih =>
    intro hi
    rw [firstMet_succ, ih (by omega)]
    have hx : ns[i]? = some (ns.getD i 0) := by rw [List.getD_eq_getElem?_getD, List.getElem?_eq_getElem (by omega)]; rfl
    have hni : ns.getD i 0 ∉ ns.take i := by
      intro hm
      obtain ⟨j, hj, e⟩ := List.mem_iff_getElem.mp hm
      have hj2 : j < i := by simp only [List.length_take] at hj; omega
      rw [List.getElem_take] at e
      have := List.pairwise_iff_getElem.mp hn j i (by omega) (by omega) hj2
      apply this
      rw [e, List.getD_eq_getElem?_getD, List.getElem?_eq_getElem (by omega)]
      rfl
    unfold step_dedup
    rw [List.take_add_one, hx]
    have hno : ¬ ((ns.take i).any (· == ns.getD i 0) = true) := by
      simp only [List.any_eq_true, beq_iff_eq, not_exists, not_and]
      intro x hx e
      exact hni (e ▸ hx)
    rw [if_neg hno]
    rfl
theorem firstMet_nodup {ns : List Int} (hn : ns.Nodup) : (firstMet (fun i => ns.getD i 0) ns.length).length = ns.length := by
  rw [firstMet_take hn _ (Nat.le_refl _), List.take_length]
theorem set_my {l : Addr} {vs : List Value} {ns : List Int} {nn : Nat} {Q : Value → Shared → Prop} (F : Fr h₀ L s.heap m) (N : News h₀ L s.heap news)
    (hh : A.handled = none) (hm : (l, listOf vs.toArray nn) ∈ news) (hi : IntsAre vs ns) (hnd : ns.Nodup) (hb : ns.length + 1 < scanBound)
    (h : ∀ (h' : Heap) (tk : Nat) S o, Fr h₀ L h' m → News h₀ L h' ((S, o) :: news) → (∀ p ∈ news, p.1 < S) →
      o.SetObjOf (intKind prog w) (fun k' => (firstMet (fun i => ns.getD i 0) vs.length).any (· == k')) ns.length →
      Q (.ref S) { s with heap := h', toks := tk }) :
    wpAny (model prog w) A (call (.type "set") [.ref l]) Q E s := by
  have hl' : s.heap.IsList l vs.toArray := ⟨_, (N _ hm).1, rfl, nn, rfl⟩
  have hvn : vs.length = ns.length := IntsAre.length hi
  have hsz : vs.toArray.size = vs.length := List.size_toArray
  have hlen : (firstMet (fun i => ns.getD i 0) vs.length).length = ns.length := by rw [hvn]; exact firstMet_nodup hnd
  refine PySem.call_set_list (items := vs.toArray) (ns := ns) hh hl' (by simpa using hi) (by rw [hsz, hvn]; exact hb) fun h' tk hS hk => ?_
  rw [hsz] at hS
  obtain ⟨o, ho, hso⟩ := hS.objOf
  obtain ⟨oL, _, _, hL, _⟩ := F.ns
  have hLlt : L < s.heap.objs.size := Heap.lt_size hL
  rw [hlen] at hso
  refine h h' tk _ o ⟨F.ns.at' fun o' e => hk L o' hLlt e, fun b o' e => hk b o' (Heap.lt_size (F.keep b o' e)) (F.keep b o' e), F.above⟩ (fun p hp => ?_) (fun p hp => Heap.lt_size (N p hp).1) hso
  rcases List.mem_cons.mp hp with rfl | hp
  · refine ⟨ho, Nat.ne_of_gt hLlt, ?_⟩
    cases hq : h₀.get? s.heap.objs.size with
    | none => rfl
    | some o' => exact absurd (Heap.lt_size (F.keep _ _ hq)) (Nat.lt_irrefl _)
  · exact ⟨hk _ _ (Heap.lt_size (N p hp).1) (N p hp).1, (N p hp).2.1, (N p hp).2.2⟩
end
theorem ne_same {prog : Program} {w : World} {A : Around} {E : Value → Shared → Prop} {s : Shared} {a b : Int} {t u : Tok} {Q : Value → Shared → Prop} (e : a = b) (h : Q (.bool false) s) : wpAny (model prog w) A (compareOp .NotEq (.int a t) (.int b u)) Q E s := by
  subst e
  refine ne_int ?_
  rw [bne_self_eq_false]
  exact h
theorem ne_all {S : Addr} {news : List (Addr × Obj)} (h : ∀ p ∈ news, p.1 < S) : ∀ p ∈ news, p.1 ≠ S := fun p hp => Nat.ne_of_lt (h p hp)
end
local macro_rules | `(tactic| walk_at "call ref") => `(tactic| ((with_reducible show wpAny _ _ (call (Value.ref 341) _) _ _ _); k_dflt (refine' take_claim _ _ _ _ _ _ _ _ _ _ _ _ _ _ _ _ _ _ _ _ _ _ _ _ _ ?sB ?sF ?sX ?sN ?sT ?sK ?sf ?sl ?si ?sn ?s0 ?s1 ?s2 ?s3 ?sd ?su ?_; (case sB | sF | sX | sN | sT => k_asm); (case sK | sf => first | exact rfl | assumption); (case sl | si => with_reducible assumption); (case sn => first | with_reducible assumption | omega); (case s0 | s1 | s2 | s3 | sd | su => first | decide | omega); k_whole); intro t' h' tk' F' N'; (try k_sweep); (try k_fold)))
local macro_rules | `(tactic| walk_at "eval Name") => `(tactic| ((with_reducible show wpAny _ _ (eval (Expr.Name _ _) (envOfC _ _ _ _ _)) _ _ _); k_dflt (refine' ldc ?N ?c ?m ?d ?_ ?k ?x ?n; (case x => exact rfl); (case N => k_asm); (case c => exact rfl); (case m => k_mem); (case d => with_reducible assumption); (case k => exact rfl); (case n => decide); k_whole)))


local macro_rules | `(tactic| walk_at "eval Name") => `(tactic| ((with_reducible show wpAny _ _ (eval (Expr.Name _ _) (compEnvC _ _ _ _)) _ _ _); k_dflt (first
  | (refine' LCgL.ld_own ?N ?m ?c ?x ?_ ?k ?l ?d; (case l => kernel_rfl!); (case k => rfl); (case N => k_asm); (case m => k_mem); (case c => assumption); (case x => assumption); (case d => decide); k_whole)
  | (refine' lcf_cell ?N ?c ?m ?d ?_ ?a ?b; (case b => kernel_rfl!); (case a => rfl); (case N => k_asm); (case c => with_unfolding_all rfl); (case m => k_mem); (case d => assumption); k_whole)
  | (refine' lcf_free ?N ?c ?m ?d ?_ ?a ?b; (case b => kernel_rfl!); (case a => rfl); (case N => k_asm); (case c => with_unfolding_all rfl); (case m => k_mem); (case d => assumption); k_whole)
  | (refine' LCgL.ld_global ?F ?X ?T ?e ?_ ?g ?k ?x ?d; (case x => kernel_rfl!); (case k => rfl); (case g => rfl); (case F => k_asm); (case X => k_asm); (case T => k_asm); (case e => k_is); (case d => decide); k_whole)
  | refine LCgL.ld_built (by k_asm) (by k_asm) (by k_asm) (by k_is) (by boot_by_name) (by decide) ?_)))
local macro_rules | `(tactic| walk_at "my_sub") => `(tactic| (intro p' hp'; repeat' (first | exact hp' | refine List.mem_cons_of_mem _ ?_)))
local macro_rules | `(tactic| walk_at "call ref") => `(tactic| ((with_reducible show wpAny _ _ (call (Value.ref 348) _) _ _ _); k_dflt (refine' table_claim _ _ _ _ _ _ _ _ _ _ _ _ _ _ _ _ _ _ _ _ _ _ _ _ _ _ _ ?tB ?tF ?tX ?tN ?tT ?tK ?tf ?tm ?tc ?th ?tk ?tb ?ti ?td ?tu ?_; (case tB | tF | tX | tN | tT => k_asm); (case tK | tf => first | exact rfl | assumption); (case tm | tc => k_mem); (case th => first | assumption | exact ChsIn.mono (by assumption) (by walk_at "my_sub")); (case tk => assumption); (case tb => first | assumption | omega); (case ti => assumption); (case td | tu => first | decide | omega); k_whole); intro r' h' tk' n' vs' F' N' lt' I'; (try k_sweep); (try k_fold)))
section
theorem rst_S2 : True := by w_top off; trivial
open LCg LCt
noncomputable def lbody : List Stmt := lawPart.1
noncomputable def lsc : Scope := lawPart.2.1
theorem cl_script (L : Addr) : (cellsFrom (L + 1) lsc.names []).lookup (Str.ofString "script") = some (L + 1) := by kernel_rfl!
theorem cl_marks (L : Addr) : (cellsFrom (L + 1) lsc.names []).lookup (Str.ofString "marks") = some (L + 1 + 1) := by kernel_rfl!
theorem cl_table (L : Addr) : (cellsFrom (L + 1) lsc.names []).lookup (Str.ofString "table") = some (L + 1 + 1 + 1) := by kernel_rfl!
theorem cl_free (L : Addr) : (cellsFrom (L + 1) lsc.names []).lookup (Str.ofString "free") = some (L + 1 + 1 + 1 + 1) := by kernel_rfl!
def markOf (ns : List Int) (j : Nat) : Bool := decide (take ns (3 + (j : Int)) 5 = 0)
def marksOf (ns : List Int) : List Bool := (List.range ((4 + take ns 2 15).toNat)).map (markOf ns) ++ [true]
theorem news_sub {h₀ h : Heap} {L : Addr} {a b : List (Addr × Obj)} (N : News h₀ L h a) (hs : ∀ p ∈ b, p ∈ a) : News h₀ L h b := fun p hp => N p (hs p hp)
set_option linter.all false in
theorem stageA (w : World) (mean : ExcName → Option Value) (mg mb : Str → Option Value) (l L a : Addr) (vs : List Value) (ns : List Int) (dp un : Nat) (gd : Option (List Code)) (cd : Value) (A₀ : Around) (h₀ : Heap) (m : Str → Option Value) (s : Shared) (oS oM oT oF : Obj) (Q : Flow → Shared → Prop) (E : Value → Shared → Prop)
    (B : Below A₀ h₀ [] h₀) (F : Fr h₀ L s.heap m) (X : (Mine.hd.heap_1 w.params).In h₀) (N : News h₀ L s.heap [(L + 1 + 1 + 1 + 1, oF), (L + 1 + 1 + 1, oT), (L + 1 + 1, oM), (L + 1, oS)])
    (T : Top Mine.hd.view_39 (looseW Mine.hd.view_39 [Str.ofString "PyFATException", Str.ofString "errno", Str.ofString "PyFat"]) mean mg mb h₀)
    (dS : oS.data = .cell (some (.ref l))) (dM : oM.data = .cell none) (hl : h₀.IsList l vs.toArray) (hi : IntsAre vs ns) (hn : ns.length ≤ 63) (hdp : dp + 20 < recursionLimit) (hun : un + 200 < cLine)
    (hq : ∀ kind t1 t2 lm n oM' h' tk', Kind kind → oM'.data = .cell (some (.ref lm)) → (L + 1 + 1 + 1 + 1) < lm → 
      Fr h₀ L h' (fun y => if y = Str.ofString "size" then some (Value.int (1 + take ns 1 40) t2) else if y = Str.ofString "kind" then some (Value.int kind t1) else m y) →
      News h₀ L h' [(lm, listOf ((marksOf ns).map Value.bool).toArray n), (L + 1 + 1 + 1 + 1, oF), (L + 1 + 1 + 1, oT), (L + 1 + 1, oM'), (L + 1, oS)] → Q .next { s with heap := h', toks := tk' }) :
    wpAny (model PySem.Challenge.rw_jr0029_01.row.prog w) (arTop dp un gd (envOfC (Str.ofString "law") lsc L a cd) []) (execs (lbody.take 3) (envOfC (Str.ofString "law") lsc L a cd)) Q E s := by
  delta lbody lawPart
  dsimp only [List.take]
  (repeat' ((fail_if_success (with_reducible show wpAny _ _ (exec (Stmt.For _ _ _ _ _) _) _ _ _)); (fail_if_success (with_reducible show wpAny _ _ (eval (Expr.ListComp _ _ _ _) _) _ _ _)); (fail_if_success (with_reducible show wpAny _ _ (pyIter (Value.ref _)) _ _ _)); (fail_if_success (with_reducible show wpAny _ _ (subscriptTail _ _ (Value.ref _) (Value.int _ _)) _ _ _)); (fail_if_success (with_reducible show wpAny _ _ (subscriptTail _ _ (Value.ref _) (Value.ref _)) _ _ _)); (fail_if_success (with_reducible show wpAny _ _ (compareOp _ (Value.ref _) (Value.ref _)) _ _ _)); (fail_if_success (with_reducible show LCg.CompSrc _ _ _ _ _ _ _ _ _ _ _ _ _ _)); (fail_if_success (with_reducible show LCt.CompSrcT _ _ _ _ _ _ _ _ _ _ _ _ _ _ _)); (fail_if_success (with_reducible show wpAny _ _ (binaryOp _ (Value.ref _) (Value.ref _)) _ _ _)); (fail_if_success (with_reducible show LCg.FinE _ _ _ _ _ _ _)); (fail_if_success (with_reducible show Turned _ _ _ _ _ _ _ _)); (first | (k_unfold; (try dsimp only)) | walk1 | (dsimp only; walk1) | ((dsimp only [List.nil_append, List.cons_append]); walk1) | (leave1; (try dsimp only)) | fail "no step")))
  refine three_sub (by k_asm) (by k_mem) (take_bounds _ _ _ (by decide)) ?_
  intro kind tk hk0
  dsimp only
  k_sweep
  (repeat' ((fail_if_success (with_reducible show wpAny _ _ (exec (Stmt.For _ _ _ _ _) _) _ _ _)); (fail_if_success (with_reducible show wpAny _ _ (eval (Expr.ListComp _ _ _ _) _) _ _ _)); (fail_if_success (with_reducible show wpAny _ _ (pyIter (Value.ref _)) _ _ _)); (fail_if_success (with_reducible show wpAny _ _ (subscriptTail _ _ (Value.ref _) (Value.int _ _)) _ _ _)); (fail_if_success (with_reducible show wpAny _ _ (subscriptTail _ _ (Value.ref _) (Value.ref _)) _ _ _)); (fail_if_success (with_reducible show wpAny _ _ (compareOp _ (Value.ref _) (Value.ref _)) _ _ _)); (fail_if_success (with_reducible show LCg.CompSrc _ _ _ _ _ _ _ _ _ _ _ _ _ _)); (fail_if_success (with_reducible show LCt.CompSrcT _ _ _ _ _ _ _ _ _ _ _ _ _ _ _)); (fail_if_success (with_reducible show wpAny _ _ (binaryOp _ (Value.ref _) (Value.ref _)) _ _ _)); (fail_if_success (with_reducible show LCg.FinE _ _ _ _ _ _ _)); (fail_if_success (with_reducible show Turned _ _ _ _ _ _ _ _)); (first | (k_unfold; (try dsimp only)) | walk1 | (dsimp only; walk1) | ((dsimp only [List.nil_append, List.cons_append]); walk1) | (leave1; (try dsimp only)) | fail "no step")))
  refine LCg.ListComp_U (cl := [(Str.ofString "script", L + 1)]) (F₀ := by k_asm) (by kernel_rfl!) (by decide +kernel) (by rfl) (by decide +kernel) (by kernel_rfl!) ?_
  (repeat' ((fail_if_success (with_reducible show wpAny _ _ (exec (Stmt.For _ _ _ _ _) _) _ _ _)); (fail_if_success (with_reducible show wpAny _ _ (eval (Expr.ListComp _ _ _ _) _) _ _ _)); (fail_if_success (with_reducible show wpAny _ _ (pyIter (Value.ref _)) _ _ _)); (fail_if_success (with_reducible show wpAny _ _ (subscriptTail _ _ (Value.ref _) (Value.int _ _)) _ _ _)); (fail_if_success (with_reducible show wpAny _ _ (subscriptTail _ _ (Value.ref _) (Value.ref _)) _ _ _)); (fail_if_success (with_reducible show wpAny _ _ (compareOp _ (Value.ref _) (Value.ref _)) _ _ _)); (fail_if_success (with_reducible show LCg.CompSrc _ _ _ _ _ _ _ _ _ _ _ _ _ _)); (fail_if_success (with_reducible show LCt.CompSrcT _ _ _ _ _ _ _ _ _ _ _ _ _ _ _)); (fail_if_success (with_reducible show wpAny _ _ (binaryOp _ (Value.ref _) (Value.ref _)) _ _ _)); (fail_if_success (with_reducible show LCg.FinE _ _ _ _ _ _ _)); (fail_if_success (with_reducible show Turned _ _ _ _ _ _ _ _)); (first | (k_unfold; (try dsimp only)) | walk1 | (dsimp only; walk1) | ((dsimp only [List.nil_append, List.cons_append]); walk1) | (leave1; (try dsimp only)) | fail "no step")))
  have hk2 := take_bounds ns 2 15 (by decide)
  refine LCg.CompSrc.range (n := (4 + take ns 2 15).toNat) (by rfl) (by k_asm) (by k_asm) (by assumption) ?r1 ?r2 ?r3 ?_
  case r1 => exact small_up (by omega) (by omega) (by omega) (by omega)
  case r2 => exact size_up (by omega)
  case r3 => rw [sizeLine_eq]; omega
  intro g
  refine comp_ind (fun i ys => ys = (List.range i).map (fun j : Nat => Value.bool (markOf ns j))) trivial ?_ ?_ rfl
  · rintro i v ys I oI C oC D m₂ h tk E' hi ⟨tv, rfl⟩ hg hC hx F3 N3
    (repeat' ((fail_if_success (with_reducible show wpAny _ _ (exec (Stmt.For _ _ _ _ _) _) _ _ _)); (fail_if_success (with_reducible show wpAny _ _ (eval (Expr.ListComp _ _ _ _) _) _ _ _)); (fail_if_success (with_reducible show wpAny _ _ (pyIter (Value.ref _)) _ _ _)); (fail_if_success (with_reducible show wpAny _ _ (subscriptTail _ _ (Value.ref _) (Value.int _ _)) _ _ _)); (fail_if_success (with_reducible show wpAny _ _ (subscriptTail _ _ (Value.ref _) (Value.ref _)) _ _ _)); (fail_if_success (with_reducible show wpAny _ _ (compareOp _ (Value.ref _) (Value.ref _)) _ _ _)); (fail_if_success (with_reducible show LCg.CompSrc _ _ _ _ _ _ _ _ _ _ _ _ _ _)); (fail_if_success (with_reducible show LCt.CompSrcT _ _ _ _ _ _ _ _ _ _ _ _ _ _ _)); (fail_if_success (with_reducible show wpAny _ _ (binaryOp _ (Value.ref _) (Value.ref _)) _ _ _)); (fail_if_success (with_reducible show LCg.FinE _ _ _ _ _ _ _)); (fail_if_success (with_reducible show Turned _ _ _ _ _ _ _ _)); (first | (k_unfold; (try dsimp only)) | walk1 | (dsimp only; walk1) | ((dsimp only [List.nil_append, List.cons_append]); walk1) | (leave1; (try dsimp only)) | fail "no step")))
    refine Turned.mk (by k_asm) (by k_asm) ?_
    rw [hg, List.range_succ, List.map_append, Int.zero_add]
    rfl
  · intro ys hg
    walk_at "FinE"
    (repeat' ((fail_if_success (with_reducible show wpAny _ _ (exec (Stmt.For _ _ _ _ _) _) _ _ _)); (fail_if_success (with_reducible show wpAny _ _ (eval (Expr.ListComp _ _ _ _) _) _ _ _)); (fail_if_success (with_reducible show wpAny _ _ (pyIter (Value.ref _)) _ _ _)); (fail_if_success (with_reducible show wpAny _ _ (subscriptTail _ _ (Value.ref _) (Value.int _ _)) _ _ _)); (fail_if_success (with_reducible show wpAny _ _ (subscriptTail _ _ (Value.ref _) (Value.ref _)) _ _ _)); (fail_if_success (with_reducible show wpAny _ _ (compareOp _ (Value.ref _) (Value.ref _)) _ _ _)); (fail_if_success (with_reducible show LCg.CompSrc _ _ _ _ _ _ _ _ _ _ _ _ _ _)); (fail_if_success (with_reducible show LCt.CompSrcT _ _ _ _ _ _ _ _ _ _ _ _ _ _ _)); (fail_if_success (with_reducible show wpAny _ _ (binaryOp _ (Value.ref _) (Value.ref _)) _ _ _)); (fail_if_success (with_reducible show LCg.FinE _ _ _ _ _ _ _)); (fail_if_success (with_reducible show Turned _ _ _ _ _ _ _ _)); (first | (k_unfold; (try dsimp only)) | walk1 | (dsimp only; walk1) | ((dsimp only [List.nil_append, List.cons_append]); walk1) | (leave1; (try dsimp only)) | fail "no step")))
    refine kmk_add_lit (zs := (marksOf ns).map Value.bool) (by k_asm) (by k_asm) (by kmk_list) (by kmk_list) ?e1 ?_ ?z1
    case e1 => rw [hg]; unfold marksOf; rw [List.map_append, List.map_map]; rfl
    case z1 => rw [hg]; simp only [List.length_map, List.length_range]; show _ + 1 ≤ sizeLine; rw [sizeLine_eq]; omega
    intro D' h' F' N' l1
    (try k_lt l1); (try k_sweep)
    (repeat' ((fail_if_success (with_reducible show wpAny _ _ (exec (Stmt.For _ _ _ _ _) _) _ _ _)); (fail_if_success (with_reducible show wpAny _ _ (eval (Expr.ListComp _ _ _ _) _) _ _ _)); (fail_if_success (with_reducible show wpAny _ _ (pyIter (Value.ref _)) _ _ _)); (fail_if_success (with_reducible show wpAny _ _ (subscriptTail _ _ (Value.ref _) (Value.int _ _)) _ _ _)); (fail_if_success (with_reducible show wpAny _ _ (subscriptTail _ _ (Value.ref _) (Value.ref _)) _ _ _)); (fail_if_success (with_reducible show wpAny _ _ (compareOp _ (Value.ref _) (Value.ref _)) _ _ _)); (fail_if_success (with_reducible show LCg.CompSrc _ _ _ _ _ _ _ _ _ _ _ _ _ _)); (fail_if_success (with_reducible show LCt.CompSrcT _ _ _ _ _ _ _ _ _ _ _ _ _ _ _)); (fail_if_success (with_reducible show wpAny _ _ (binaryOp _ (Value.ref _) (Value.ref _)) _ _ _)); (fail_if_success (with_reducible show LCg.FinE _ _ _ _ _ _ _)); (fail_if_success (with_reducible show Turned _ _ _ _ _ _ _ _)); (first | (k_unfold; (try dsimp only)) | walk1 | (dsimp only; walk1) | ((dsimp only [List.nil_append, List.cons_append]); walk1) | (leave1; (try dsimp only)) | fail "no step")))
    exact hq _ _ _ _ _ _ _ _ hk0 (by assumption) (by (first | exact l1.2.1 | exact l1.2.2.1 | exact l1.2.2.2.1)) (by k_asm) (news_sub (by k_asm) (by lcg_sub))
end
local macro_rules | `(tactic| walk_at "storeName") => `(tactic| ((with_reducible show wpAny _ _ (storeName (envOfC _ _ _ _ _) _ _) _ _ _); k_dflt (refine' stcC ?F ?N ?c ?U ?d ?_ ?k ?x; (case x => kernel_rfl!); (case c => first | exact cl_marks _ | exact cl_table _ | exact cl_free _ | exact cl_script _); (case k => exact rfl); (case F | N => k_asm); (case U => k_updF); (case d => with_reducible assumption); k_whole); intro h' o' F' N' d'; (try dsimp only at N'); (try k_sweep)))
section
theorem rst_S3 : True := by w_top off; trivial
set_option linter.all false in
theorem stageB (w : World) (mean : ExcName → Option Value) (mg mb : Str → Option Value) (L a : Addr) (dp un : Nat) (gd : Option (List Code)) (cd : Value) (A₀ : Around) (h₀ : Heap) (m : Str → Option Value) (s : Shared) (news : List (Addr × Obj)) (kind size : Int) (t1 t2 : Tok) (Q : Flow → Shared → Prop) (E : Value → Shared → Prop)
    (B : Below A₀ h₀ [] h₀) (F : Fr h₀ L s.heap m) (X : (Mine.hd.heap_1 w.params).In h₀) (N : News h₀ L s.heap news)
    (T : Top Mine.hd.view_39 (looseW Mine.hd.view_39 [Str.ofString "PyFATException", Str.ofString "errno", Str.ofString "PyFat"]) mean mg mb h₀)
    (mk : m (Str.ofString "kind") = some (.int kind t1)) (ms : m (Str.ofString "size") = some (.int size t2))
    (hdp : dp + 20 < recursionLimit) (hun : un + 200 < cLine)
    (hq : ∀ V dV d9 o9 (k : Nat → Tok) (v : Nat → Value) tf h' tk', (∀ p ∈ news, p.1 < dV) → @LT.lt Nat _ dV V → 
      Fr h₀ L h' (fun y => if y = Str.ofString "volume" then some (Value.ref V) else m y) →
      News h₀ L h' ((d9, o9) :: (V, instObj 316 dV) :: (dV, dictOf (volEs w.params k v (.int size t2) (.int 0 tf) (.int kind t1) (.ref d9) (.bool true) (.bool false)) 16) :: news) → Q .next { s with heap := h', toks := tk' }) :
    wpAny (model PySem.Challenge.rw_jr0029_01.row.prog w) (arTop dp un gd (envOfC (Str.ofString "law") lsc L a cd) []) (execs ((lbody.take 8).drop 3) (envOfC (Str.ofString "law") lsc L a cd)) Q E s := by
  delta lbody lawPart
  dsimp only [List.take, List.drop]
  (repeat' ((fail_if_success (with_reducible show wpAny _ _ (exec (Stmt.For _ _ _ _ _) _) _ _ _)); (fail_if_success (with_reducible show wpAny _ _ (eval (Expr.ListComp _ _ _ _) _) _ _ _)); (fail_if_success (with_reducible show wpAny _ _ (pyIter (Value.ref _)) _ _ _)); (fail_if_success (with_reducible show wpAny _ _ (subscriptTail _ _ (Value.ref _) (Value.int _ _)) _ _ _)); (fail_if_success (with_reducible show wpAny _ _ (subscriptTail _ _ (Value.ref _) (Value.ref _)) _ _ _)); (fail_if_success (with_reducible show wpAny _ _ (compareOp _ (Value.ref _) (Value.ref _)) _ _ _)); (fail_if_success (with_reducible show LCg.CompSrc _ _ _ _ _ _ _ _ _ _ _ _ _ _)); (fail_if_success (with_reducible show LCt.CompSrcT _ _ _ _ _ _ _ _ _ _ _ _ _ _ _)); (fail_if_success (with_reducible show wpAny _ _ (binaryOp _ (Value.ref _) (Value.ref _)) _ _ _)); (fail_if_success (with_reducible show LCg.FinE _ _ _ _ _ _ _)); (fail_if_success (with_reducible show Turned _ _ _ _ _ _ _ _)); (first | (k_unfold; (try dsimp only)) | walk1 | (dsimp only; walk1) | ((dsimp only [List.nil_append, List.cons_append]); walk1) | (leave1; (try dsimp only)) | fail "no step")))
  all_goals first | exact Str.ofString "" | exact Value.none | exact (0 : Nat) | skip
  rename Fr h₀ L _ _ => F9
  rename News h₀ L _ _ => N9
  exact hq _ _ _ _ (fun i => ([_, _, _, _, _, _, _, _, _, _, _, _, _, _, _, _] : List Tok).getD i 0) (fun i => ([_, _, _, _, _, _, _, .none, _, .none, .none, .none, .none, _, .none, _] : List Value).getD i .none) _ _ _ (by assumption) (by assumption) F9 N9
end
section
theorem rst_S4 : True := by w_top off; trivial
open LCg LCt
def goodOf (bs : List Bool) (i : Nat) : List Int := ((List.range i).filter (fun j => ! bs.getD j true)).map (fun j : Nat => 2 + (j : Int))
def downOf (ns : List Int) (bs : List Bool) : List Int := (goodOf bs bs.length).reverse.take (1 + take ns 50 4).toNat
def chains0 (ns : List Int) (bs : List Bool) : List (List Int) := if downOf ns bs = [] then [] else [downOf ns bs]
theorem keep2 {h₀ h : Heap} {L : Addr} {a b c d e : Addr × Obj} {news : List (Addr × Obj)} (N : News h₀ L h (a :: b :: c :: d :: e :: news)) : News h₀ L h (a :: c :: news) := fun p hp => N p (by
  simp only [List.mem_cons] at hp ⊢
  rcases hp with h | h | h
  · exact .inl h
  · exact .inr (.inr (.inl h))
  · exact .inr (.inr (.inr (.inr (.inr h)))))
theorem goodOf_len (bs : List Bool) (i : Nat) : (goodOf bs i).length ≤ i := by
  unfold goodOf; rw [List.length_map]; exact Nat.le_trans (List.length_filter_le _ _) (by simp)
theorem goodOf_skip {bs : List Bool} {i : Nat} (h : bs.getD i true = true) : goodOf bs (i + 1) = goodOf bs i := by
  unfold goodOf; rw [List.range_succ, List.filter_append]; simp only [List.filter, h, Bool.not_true, List.append_nil]
theorem goodOf_take {bs : List Bool} {i : Nat} (h : bs.getD i true = false) : goodOf bs (i + 1) = goodOf bs i ++ [2 + (i : Int)] := by
  unfold goodOf; rw [List.range_succ, List.filter_append]; simp only [List.filter, h, Bool.not_false, List.map_append, List.map_cons, List.map_nil]
set_option linter.all false in
theorem stageC (w : World) (mean : ExcName → Option Value) (mg mb : Str → Option Value) (l L a : Addr) (vs : List Value) (ns : List Int) (dp un : Nat) (gd : Option (List Code)) (cd : Value) (A₀ : Around) (h₀ : Heap) (m : Str → Option Value) (s : Shared) (news : List (Addr × Obj)) (oS oM : Obj) (lm : Addr) (nm : Nat) (bs : List Bool) (Q : Flow → Shared → Prop) (E : Value → Shared → Prop)
    (B : Below A₀ h₀ [] h₀) (F : Fr h₀ L s.heap m) (X : (Mine.hd.heap_1 w.params).In h₀) (N : News h₀ L s.heap news)
    (T : Top Mine.hd.view_39 (looseW Mine.hd.view_39 [Str.ofString "PyFATException", Str.ofString "errno", Str.ofString "PyFat"]) mean mg mb h₀)
    (mS : (L + 1, oS) ∈ news) (dS : oS.data = .cell (some (.ref l))) (mM : (L + 1 + 1, oM) ∈ news) (dM : oM.data = .cell (some (.ref lm))) (ml : (lm, listOf (bs.map Value.bool).toArray nm) ∈ news)
    (hb : bs.length ≤ 40) (hl : h₀.IsList l vs.toArray) (hi : IntsAre vs ns) (hn : ns.length ≤ 63) (hdp : dp + 20 < recursionLimit) (hun : un + 200 < cLine)
    (hq : ∀ lg ld lc rs ws h' tk', AllLt ld news → @LT.lt Nat _ ld lc → AllLt lc news → ChsIn ((ld, listOf (List.toArray ws) 0) :: news) rs (chains0 ns bs) →
      Fr h₀ L h' (fun y => if y = Str.ofString "chains" then some (Value.ref lc) else if y = Str.ofString "down" then some (Value.ref ld) else if y = Str.ofString "good" then some (Value.ref lg) else m y) →
      News h₀ L h' ((lc, listOf (List.toArray rs) 0) :: (ld, listOf (List.toArray ws) 0) :: news) → Q .next { s with heap := h', toks := tk' }) :
    wpAny (model PySem.Challenge.rw_jr0029_01.row.prog w) (arTop dp un gd (envOfC (Str.ofString "law") lsc L a cd) []) (execs ((lbody.take 11).drop 8) (envOfC (Str.ofString "law") lsc L a cd)) Q E s := by
  delta lbody lawPart
  dsimp only [List.take, List.drop]
  have hbl : (bs.map Value.bool).length = bs.length := List.length_map ..
  walk1
  refine LCt.Assign_ListComp_T (cl := [(Str.ofString "marks", L + 1 + 1)]) (F₀ := by k_asm) (by rfl) (by with_unfolding_all rfl) (by kernel_rfl!) (by decide +kernel) (by rfl) (by decide +kernel) (by kernel_rfl!) (by kernel_rfl!) (by rfl) ?_
  (repeat' ((fail_if_success (with_reducible show wpAny _ _ (exec (Stmt.For _ _ _ _ _) _) _ _ _)); (fail_if_success (with_reducible show wpAny _ _ (eval (Expr.ListComp _ _ _ _) _) _ _ _)); (fail_if_success (with_reducible show wpAny _ _ (pyIter (Value.ref _)) _ _ _)); (fail_if_success (with_reducible show wpAny _ _ (subscriptTail _ _ (Value.ref _) (Value.int _ _)) _ _ _)); (fail_if_success (with_reducible show wpAny _ _ (subscriptTail _ _ (Value.ref _) (Value.ref _)) _ _ _)); (fail_if_success (with_reducible show wpAny _ _ (compareOp _ (Value.ref _) (Value.ref _)) _ _ _)); (fail_if_success (with_reducible show LCg.CompSrc _ _ _ _ _ _ _ _ _ _ _ _ _ _)); (fail_if_success (with_reducible show LCt.CompSrcT _ _ _ _ _ _ _ _ _ _ _ _ _ _ _)); (fail_if_success (with_reducible show wpAny _ _ (binaryOp _ (Value.ref _) (Value.ref _)) _ _ _)); (fail_if_success (with_reducible show LCg.FinE _ _ _ _ _ _ _)); (fail_if_success (with_reducible show Turned _ _ _ _ _ _ _ _)); (first | (k_unfold; (try dsimp only)) | walk1 | (dsimp only; walk1) | ((dsimp only [List.nil_append, List.cons_append]); walk1) | (leave1; (try dsimp only)) | fail "no step")))
  refine LCt.CompSrcT.range (n := bs.length) (by rfl) (by k_asm) (by k_asm) (by assumption) ?r1 ?r2 ?r3 ?_
  case r1 => exact small_up (by omega) (by omega) (by omega) (by omega)
  case r2 => exact size_up (by omega)
  case r3 => rw [sizeLine_eq]; omega
  intro g
  dsimp only
  refine comp_indT (fun i ys => IntsAre ys (goodOf bs i)) trivial ?_ ?_ .nil
  · rintro i v ys I oI C oC D m₂ h tk E' hi ⟨tv, rfl⟩ hg hC hx F3 N3
    (repeat' ((fail_if_success (with_reducible show wpAny _ _ (exec (Stmt.For _ _ _ _ _) _) _ _ _)); (fail_if_success (with_reducible show wpAny _ _ (eval (Expr.ListComp _ _ _ _) _) _ _ _)); (fail_if_success (with_reducible show wpAny _ _ (pyIter (Value.ref _)) _ _ _)); (fail_if_success (with_reducible show wpAny _ _ (subscriptTail _ _ (Value.ref _) (Value.int _ _)) _ _ _)); (fail_if_success (with_reducible show wpAny _ _ (subscriptTail _ _ (Value.ref _) (Value.ref _)) _ _ _)); (fail_if_success (with_reducible show wpAny _ _ (compareOp _ (Value.ref _) (Value.ref _)) _ _ _)); (fail_if_success (with_reducible show LCg.CompSrc _ _ _ _ _ _ _ _ _ _ _ _ _ _)); (fail_if_success (with_reducible show LCt.CompSrcT _ _ _ _ _ _ _ _ _ _ _ _ _ _ _)); (fail_if_success (with_reducible show wpAny _ _ (binaryOp _ (Value.ref _) (Value.ref _)) _ _ _)); (fail_if_success (with_reducible show LCg.FinE _ _ _ _ _ _ _)); (fail_if_success (with_reducible show Turned _ _ _ _ _ _ _ _)); (first | (k_unfold; (try dsimp only)) | walk1 | (dsimp only; walk1) | ((dsimp only [List.nil_append, List.cons_append]); walk1) | (leave1; (try dsimp only)) | fail "no step")))
    refine kim_list (l := bs.map Value.bool) (n := nm) (x := .bool (bs.getD i true)) (by k_asm) (by k_mem) rfl rfl (by omega) (by omega) ?hx ?_
    case hx =>
      rw [Int.zero_add, Int.toNat_natCast, List.getElem?_map, List.getD_eq_getElem?_getD, List.getElem?_eq_getElem hi]
      rfl
    walk1
    cases hbi : bs.getD i true
    · simp only [Bool.not_false, if_true]
      iterate 4 walk1
      dsimp only
      refine Turned.mk (by k_asm) (by k_asm) ?_
      rw [goodOf_take hbi, Int.zero_add]; exact hg.append (.cons _ _ .nil)
    · simp only [Bool.not_true, Bool.false_eq_true, if_false]
      refine Turned.mk (by k_asm) (by k_asm) ?_
      rw [goodOf_skip hbi]; exact hg
  · intro ys hg
    walk_at "FinA"
    (repeat' ((fail_if_success (with_reducible show wpAny _ _ (exec (Stmt.For _ _ _ _ _) _) _ _ _)); (fail_if_success (with_reducible show wpAny _ _ (eval (Expr.ListComp _ _ _ _) _) _ _ _)); (fail_if_success (with_reducible show wpAny _ _ (pyIter (Value.ref _)) _ _ _)); (fail_if_success (with_reducible show wpAny _ _ (subscriptTail _ _ (Value.ref _) (Value.int _ _)) _ _ _)); (fail_if_success (with_reducible show wpAny _ _ (subscriptTail _ _ (Value.ref _) (Value.ref _)) _ _ _)); (fail_if_success (with_reducible show wpAny _ _ (compareOp _ (Value.ref _) (Value.ref _)) _ _ _)); (fail_if_success (with_reducible show LCg.CompSrc _ _ _ _ _ _ _ _ _ _ _ _ _ _)); (fail_if_success (with_reducible show LCt.CompSrcT _ _ _ _ _ _ _ _ _ _ _ _ _ _ _)); (fail_if_success (with_reducible show wpAny _ _ (binaryOp _ (Value.ref _) (Value.ref _)) _ _ _)); (fail_if_success (with_reducible show LCg.FinE _ _ _ _ _ _ _)); (fail_if_success (with_reducible show Turned _ _ _ _ _ _ _ _)); (first | (k_unfold; (try dsimp only)) | walk1 | (dsimp only; walk1) | ((dsimp only [List.nil_append, List.cons_append]); walk1) | (leave1; (try dsimp only)) | fail "no step")))
    refine' krv_ints ?F ?N ?l ?k ?i ?_ ?s ?t ?z
    case F => k_asm
    case N => k_asm
    case l => kmk_list
    case k => exact IsPart.int _ _
    case i => exact hg
    case s => with_unfolding_all rfl
    case t => kmk_pure
    case z => exact kmk_sz hg (by rw [sizeLine_eq]; exact Nat.le_trans (goodOf_len _ _) (by omega))
    intro D' ws' h' F' N' l1 hI' hC'
    (try k_lt l1); (try k_sweep)
    (repeat' ((fail_if_success (with_reducible show wpAny _ _ (exec (Stmt.For _ _ _ _ _) _) _ _ _)); (fail_if_success (with_reducible show wpAny _ _ (eval (Expr.ListComp _ _ _ _) _) _ _ _)); (fail_if_success (with_reducible show wpAny _ _ (pyIter (Value.ref _)) _ _ _)); (fail_if_success (with_reducible show wpAny _ _ (subscriptTail _ _ (Value.ref _) (Value.int _ _)) _ _ _)); (fail_if_success (with_reducible show wpAny _ _ (subscriptTail _ _ (Value.ref _) (Value.ref _)) _ _ _)); (fail_if_success (with_reducible show wpAny _ _ (compareOp _ (Value.ref _) (Value.ref _)) _ _ _)); (fail_if_success (with_reducible show LCg.CompSrc _ _ _ _ _ _ _ _ _ _ _ _ _ _)); (fail_if_success (with_reducible show LCt.CompSrcT _ _ _ _ _ _ _ _ _ _ _ _ _ _ _)); (fail_if_success (with_reducible show wpAny _ _ (binaryOp _ (Value.ref _) (Value.ref _)) _ _ _)); (fail_if_success (with_reducible show LCg.FinE _ _ _ _ _ _ _)); (fail_if_success (with_reducible show Turned _ _ _ _ _ _ _ _)); (first | (k_unfold; (try dsimp only)) | walk1 | (dsimp only; walk1) | ((dsimp only [List.nil_append, List.cons_append]); walk1) | (leave1; (try dsimp only)) | fail "no step")))
    have hk50 := take_bounds ns 50 4 (by decide)
    refine sub_temp (n := Str.ofString "good") (p := ⟨0, 0, 0, 0⟩) ?_
    refine' kmk_slice_ints ?y1 ?y2 ?y3 ?y4 ?y5 ?y6 ?y7 rfl ?_ ?y8 ?y9 ?y10
    case y1 => k_asm
    case y2 => k_asm
    case y3 => kmk_list
    case y4 => exact IsPart.none
    case y5 => exact IsPart.int _ _
    case y6 => exact hI'
    case y7 => exact kmk_upto hI' (by omega)
    case y8 => with_unfolding_all rfl
    case y9 => kmk_pure
    case y10 => exact kmk_sz hI' (by rw [sizeLine_eq, List.length_reverse]; exact Nat.le_trans (goodOf_len _ _) (by omega))
    intro D2 ws2 h2 F2 N2 l2 hI2 hC2 hL2
    (try k_lt l2); (try k_sweep)
    (repeat' ((fail_if_success (with_reducible show wpAny _ _ (exec (Stmt.For _ _ _ _ _) _) _ _ _)); (fail_if_success (with_reducible show wpAny _ _ (eval (Expr.ListComp _ _ _ _) _) _ _ _)); (fail_if_success (with_reducible show wpAny _ _ (pyIter (Value.ref _)) _ _ _)); (fail_if_success (with_reducible show wpAny _ _ (subscriptTail _ _ (Value.ref _) (Value.int _ _)) _ _ _)); (fail_if_success (with_reducible show wpAny _ _ (subscriptTail _ _ (Value.ref _) (Value.ref _)) _ _ _)); (fail_if_success (with_reducible show wpAny _ _ (compareOp _ (Value.ref _) (Value.ref _)) _ _ _)); (fail_if_success (with_reducible show LCg.CompSrc _ _ _ _ _ _ _ _ _ _ _ _ _ _)); (fail_if_success (with_reducible show LCt.CompSrcT _ _ _ _ _ _ _ _ _ _ _ _ _ _ _)); (fail_if_success (with_reducible show wpAny _ _ (binaryOp _ (Value.ref _) (Value.ref _)) _ _ _)); (fail_if_success (with_reducible show LCg.FinE _ _ _ _ _ _ _)); (fail_if_success (with_reducible show Turned _ _ _ _ _ _ _ _)); (first | (k_unfold; (try dsimp only)) | walk1 | (dsimp only; walk1) | ((dsimp only [List.nil_append, List.cons_append]); walk1) | (leave1; (try dsimp only)) | fail "no step")))
    refine ne_intsK (vs := ws2) (us := []) (ms := []) (by kmk_list) hI2 (by kmk_list) .nil (by first | ktr_room | (show un + 64 < cLine; omega) | (show un + 1 + 64 < cLine; omega)) ?_
    generalize hdd : decide ((goodOf bs bs.length).reverse.take (1 + take ns 50 4).toNat = []) = dd
    cases dd
    · (repeat' ((fail_if_success (with_reducible show wpAny _ _ (exec (Stmt.For _ _ _ _ _) _) _ _ _)); (fail_if_success (with_reducible show wpAny _ _ (eval (Expr.ListComp _ _ _ _) _) _ _ _)); (fail_if_success (with_reducible show wpAny _ _ (pyIter (Value.ref _)) _ _ _)); (fail_if_success (with_reducible show wpAny _ _ (subscriptTail _ _ (Value.ref _) (Value.int _ _)) _ _ _)); (fail_if_success (with_reducible show wpAny _ _ (subscriptTail _ _ (Value.ref _) (Value.ref _)) _ _ _)); (fail_if_success (with_reducible show wpAny _ _ (compareOp _ (Value.ref _) (Value.ref _)) _ _ _)); (fail_if_success (with_reducible show LCg.CompSrc _ _ _ _ _ _ _ _ _ _ _ _ _ _)); (fail_if_success (with_reducible show LCt.CompSrcT _ _ _ _ _ _ _ _ _ _ _ _ _ _ _)); (fail_if_success (with_reducible show wpAny _ _ (binaryOp _ (Value.ref _) (Value.ref _)) _ _ _)); (fail_if_success (with_reducible show LCg.FinE _ _ _ _ _ _ _)); (fail_if_success (with_reducible show Turned _ _ _ _ _ _ _ _)); (first | (k_unfold; (try dsimp only)) | walk1 | (dsimp only; walk1) | ((dsimp only [List.nil_append, List.cons_append]); walk1) | (leave1; (try dsimp only)) | fail "no step")))
      rename Fr _ _ _ _ => F9
      rename News _ _ _ _ => N9
      rename (_ < _ ∧ _ < _ ∧ _ < _ ∧ _ < _ ∧ AllLt _ _) => l9
      refine hq _ _ _ [.ref D2] ws2 _ _ l2.2.2 l9.2.1 l9.2.2.2.2 ?_ F9 (keep2 N9)
      rw [chains0, if_neg (show ¬ downOf ns bs = [] from of_decide_eq_false hdd)]
      exact .cons (.head _) hI2 .nil
    · (repeat' ((fail_if_success (with_reducible show wpAny _ _ (exec (Stmt.For _ _ _ _ _) _) _ _ _)); (fail_if_success (with_reducible show wpAny _ _ (eval (Expr.ListComp _ _ _ _) _) _ _ _)); (fail_if_success (with_reducible show wpAny _ _ (pyIter (Value.ref _)) _ _ _)); (fail_if_success (with_reducible show wpAny _ _ (subscriptTail _ _ (Value.ref _) (Value.int _ _)) _ _ _)); (fail_if_success (with_reducible show wpAny _ _ (subscriptTail _ _ (Value.ref _) (Value.ref _)) _ _ _)); (fail_if_success (with_reducible show wpAny _ _ (compareOp _ (Value.ref _) (Value.ref _)) _ _ _)); (fail_if_success (with_reducible show LCg.CompSrc _ _ _ _ _ _ _ _ _ _ _ _ _ _)); (fail_if_success (with_reducible show LCt.CompSrcT _ _ _ _ _ _ _ _ _ _ _ _ _ _ _)); (fail_if_success (with_reducible show wpAny _ _ (binaryOp _ (Value.ref _) (Value.ref _)) _ _ _)); (fail_if_success (with_reducible show LCg.FinE _ _ _ _ _ _ _)); (fail_if_success (with_reducible show Turned _ _ _ _ _ _ _ _)); (first | (k_unfold; (try dsimp only)) | walk1 | (dsimp only; walk1) | ((dsimp only [List.nil_append, List.cons_append]); walk1) | (leave1; (try dsimp only)) | fail "no step")))
      rename Fr _ _ _ _ => F9
      rename News _ _ _ _ => N9
      rename (_ < _ ∧ _ < _ ∧ _ < _ ∧ _ < _ ∧ AllLt _ _) => l9
      refine hq _ _ _ [] ws2 _ _ l2.2.2 l9.2.1 l9.2.2.2.2 ?_ F9 (keep2 N9)
      rw [chains0, if_pos (show downOf ns bs = [] from of_decide_eq_true hdd)]
      exact .nil
end
section
theorem rst_S5 : True := by w_top off; trivial
set_option linter.all false in
theorem stageD (w : World) (mean : ExcName → Option Value) (mg mb : Str → Option Value) (L a : Addr) (dp un : Nat) (gd : Option (List Code)) (cd : Value) (A₀ : Around) (h₀ : Heap) (m : Str → Option Value) (s : Shared) (rest : List (Addr × Obj)) (V dV : Addr) (nd : Nat) (k : Nat → Tok) (v : Nat → Value) (bpc ffc fat0 ini ro : Value) (kind : Int) (t1 t3 : Tok) (oM : Obj) (lm lc : Addr) (nm nc : Nat) (bs : List Bool) (rs : List Value) (chains : List (List Int)) (Q : Flow → Shared → Prop) (E : Value → Shared → Prop)
    (B : Below A₀ h₀ [] h₀) (F : Fr h₀ L s.heap m) (X : (Mine.hd.heap_1 w.params).In h₀) (N : News h₀ L s.heap ((V, instObj 316 dV) :: (dV, dictOf (volEs w.params k v bpc ffc (.int kind t3) fat0 ini ro) nd) :: rest))
    (T : Top Mine.hd.view_39 (looseW Mine.hd.view_39 [Str.ofString "PyFATException", Str.ofString "errno", Str.ofString "PyFat"]) mean mg mb h₀)
    (hV1 : @Ne Nat V dV) (hr1 : ∀ p ∈ rest, p.1 ≠ V) (hr2 : ∀ p ∈ rest, p.1 ≠ dV)
    (mk : m (Str.ofString "kind") = some (.int kind t1)) (mv : m (Str.ofString "volume") = some (.ref V)) (mc : m (Str.ofString "chains") = some (.ref lc))
    (mM : (L + 1 + 1, oM) ∈ rest) (dM : oM.data = .cell (some (.ref lm))) (ml : (lm, listOf (bs.map Value.bool).toArray nm) ∈ rest) (mlc : (lc, listOf rs.toArray nc) ∈ rest) (hch : ChsIn rest rs chains)
    (hk : Kind kind) (hbl : bs.length ≤ 40) (hin : ∀ c ∈ chains, c.length ≤ 40 ∧ ∀ z ∈ c, 0 ≤ z ∧ z < (bs.length : Int) + 2)
    (hdp : dp + 20 < recursionLimit) (hun : un + 200 < cLine)
    (hq : ∀ r us n h' tk', (∀ p ∈ (V, instObj 316 dV) :: (dV, dictOf (volEs w.params k v bpc ffc (.int kind t3) fat0 ini ro) nd) :: rest, p.1 < r) → Fr h₀ L h' m → IntsAre us (tableOf kind bs chains) →
      News h₀ L h' ((r, listOf (List.toArray us) n) :: (V, instObj 316 dV) :: (dV, dictOf (volEs w.params k v bpc ffc (.int kind t3) (.ref r) ini ro) nd) :: rest) → Q .next { s with heap := h', toks := tk' }) :
    wpAny (model PySem.Challenge.rw_jr0029_01.row.prog w) (arTop dp un gd (envOfC (Str.ofString "law") lsc L a cd) []) (execs ((lbody.take 12).drop 11) (envOfC (Str.ofString "law") lsc L a cd)) Q E s := by
  delta lbody lawPart
  dsimp only [List.take, List.drop]
  (repeat' ((fail_if_success (with_reducible show wpAny _ _ (exec (Stmt.For _ _ _ _ _) _) _ _ _)); (fail_if_success (with_reducible show wpAny _ _ (eval (Expr.ListComp _ _ _ _) _) _ _ _)); (fail_if_success (with_reducible show wpAny _ _ (pyIter (Value.ref _)) _ _ _)); (fail_if_success (with_reducible show wpAny _ _ (subscriptTail _ _ (Value.ref _) (Value.int _ _)) _ _ _)); (fail_if_success (with_reducible show wpAny _ _ (subscriptTail _ _ (Value.ref _) (Value.ref _)) _ _ _)); (fail_if_success (with_reducible show wpAny _ _ (compareOp _ (Value.ref _) (Value.ref _)) _ _ _)); (fail_if_success (with_reducible show LCg.CompSrc _ _ _ _ _ _ _ _ _ _ _ _ _ _)); (fail_if_success (with_reducible show LCt.CompSrcT _ _ _ _ _ _ _ _ _ _ _ _ _ _ _)); (fail_if_success (with_reducible show wpAny _ _ (binaryOp _ (Value.ref _) (Value.ref _)) _ _ _)); (fail_if_success (with_reducible show LCg.FinE _ _ _ _ _ _ _)); (fail_if_success (with_reducible show Turned _ _ _ _ _ _ _ _)); (first | (k_unfold; (try dsimp only)) | walk1 | (dsimp only; walk1) | ((dsimp only [List.nil_append, List.cons_append]); walk1) | (leave1; (try dsimp only)) | fail "no step")))
  all_goals first | exact Str.ofString "" | exact Value.none | exact (0 : Nat) | skip
  rename (∀ (p : Addr × Obj), p ∈ _ → p.fst < _) => lt9
  have lt8 := lt9
  have hA := lt9 _ (.head _)
  have hB := lt9 _ (.tail _ (.head _))
  dsimp only at hA hB
  have hA1 : @Ne Nat _ V := Nat.ne_of_gt hA
  have hB1 : @Ne Nat _ dV := Nat.ne_of_gt hB
  iterate 3 walk1
  rename Fr _ _ _ _ => F9
  rename News _ _ _ _ => N9
  exact hq _ _ _ _ _ lt8 F9 (by assumption) N9
end
section
theorem rst_S6 : True := by w_top off; trivial
set_option linter.all false in
theorem bad_law {w : World} {mean : ExcName → Option Value} {mg mb : Str → Option Value} {dp un : Nat} {gd : Option (List Code)} {A₀ : Around} {h₀ : Heap} {L a : Addr} {cd : Value} {m : Str → Option Value} {news : List (Addr × Obj)} {s : Shared} {Q E : Value → Shared → Prop} {kind : Int} {tk : Tok} {p1 p2 p3 p4 : Pos} (B : Below A₀ h₀ [] h₀) (F : Fr h₀ L s.heap m) (X : (Mine.hd.heap_1 w.params).In h₀) (N : News h₀ L s.heap news)
    (T : Top Mine.hd.view_39 (looseW Mine.hd.view_39 [Str.ofString "PyFATException", Str.ofString "errno", Str.ofString "PyFat"]) mean mg mb h₀)
    (hkd : m (Str.ofString "kind") = some (.int kind tk)) (hk : Kind kind) (hdp : dp + 4 < recursionLimit) (hun : un + 24 < cLine)
    (hret : ∀ t h' tk', Fr h₀ L h' m → News h₀ L h' news → Q (.int (badv kind) t) { s with heap := h', toks := tk' }) :
    wpAny (model PySem.Challenge.rw_jr0029_01.row.prog w) (arTop dp un gd (envOfC (Str.ofString "law") lsc L a cd) []) (eval (Expr.Subscript (Expr.Call (Expr.Name (Str.ofString "_law_bad") p1) [] [] p2) (Expr.Name (Str.ofString "kind") p3) p4) (envOfC (Str.ofString "law") lsc L a cd)) Q E s := by
  rcases hk with rfl | rfl | rfl
  all_goals (
    (repeat' ((fail_if_success (with_reducible show wpAny _ _ (pyIter (Value.ref _)) _ _ _)); (first | (k_unfold; (try dsimp only)) | (k_end; wrow_close) | walk1 | (dsimp only; walk1) | ((dsimp only [List.nil_append, List.cons_append]); walk1) | (leave1; (try dsimp only)) | fail "no step")))
    all_goals first | exact Str.ofString "" | exact Value.none | exact (0 : Nat) | skip
    exact hret _ _ _ (by k_asm) (by first | k_asm | exact cb_drop (by k_asm) (by kcj_all)))
end
section
theorem rst_S7 : True := by w_top off; trivial
theorem keep1 {h₀ h : Heap} {L : Addr} {a b c : Addr × Obj} {news : List (Addr × Obj)} (N : News h₀ L h (a :: b :: c :: news)) : News h₀ L h (b :: news) := fun p hp => N p (by
  simp only [List.mem_cons] at hp ⊢
  rcases hp with h | h
  · exact .inr (.inl h)
  · exact .inr (.inr (.inr h)))
set_option linter.all false in
theorem stageF (w : World) (mean : ExcName → Option Value) (mg mb : Str → Option Value) (l L a : Addr) (vs : List Value) (ns : List Int) (dp un : Nat) (gd : Option (List Code)) (cd : Value) (A₀ : Around) (h₀ : Heap) (m : Str → Option Value) (s : Shared) (news : List (Addr × Obj)) (kind : Int) (t1 : Tok) (oS oM : Obj) (lm : Addr) (nm : Nat) (bs : List Bool) (Q : Flow → Shared → Prop) (E : Value → Shared → Prop)
    (B : Below A₀ h₀ [] h₀) (F : Fr h₀ L s.heap m) (X : (Mine.hd.heap_1 w.params).In h₀) (N : News h₀ L s.heap news)
    (T : Top Mine.hd.view_39 (looseW Mine.hd.view_39 [Str.ofString "PyFATException", Str.ofString "errno", Str.ofString "PyFat"]) mean mg mb h₀)
    (mk : m (Str.ofString "kind") = some (.int kind t1)) (mS : (L + 1, oS) ∈ news) (dS : oS.data = .cell (some (.ref l)))
    (mM : (L + 1 + 1, oM) ∈ news) (dM : oM.data = .cell (some (.ref lm))) (ml : (lm, listOf (bs.map Value.bool).toArray nm) ∈ news)
    (hl : h₀.IsList l vs.toArray) (hi : IntsAre vs ns) (hn : ns.length ≤ 63)
    (hk : Kind kind) (hbl : bs.length ≤ 40) (hbl2 : 4 ≤ bs.length)
    (hdp : dp + 20 < recursionLimit) (hun : un + 200 < cLine)
    (hq : ∀ r us n x h' tk', (∀ p ∈ news, p.1 < r) → (x = 0 ∨ x = badv kind ∨ x = 1) → IntsAre us (((tableOf kind bs []).set 2 x).set 3 2) → Fr h₀ L h' (fun y => if y = Str.ofString "broken" then some (.ref r) else m y) →
      News h₀ L h' ((r, listOf (List.toArray us) n) :: news) → Q .next { s with heap := h', toks := tk' }) :
    wpAny (model PySem.Challenge.rw_jr0029_01.row.prog w) (arTop dp un gd (envOfC (Str.ofString "law") lsc L a cd) []) (execs ((lbody.take 16).drop 13) (envOfC (Str.ofString "law") lsc L a cd)) Q E s := by
  delta lbody lawPart
  dsimp only [List.take, List.drop]
  have hin : ∀ c ∈ ([] : List (List Int)), c.length ≤ 40 ∧ ∀ z ∈ c, 0 ≤ z ∧ z < (bs.length : Int) + 2 := fun c hc => nomatch hc
  have hch : ChsIn news [] [] := .nil
  (repeat' ((fail_if_success (with_reducible show wpAny _ _ (exec (Stmt.For _ _ _ _ _) _) _ _ _)); (fail_if_success (with_reducible show wpAny _ _ (eval (Expr.ListComp _ _ _ _) _) _ _ _)); (fail_if_success (with_reducible show wpAny _ _ (pyIter (Value.ref _)) _ _ _)); (fail_if_success (with_reducible show wpAny _ _ (subscriptTail _ _ (Value.ref _) (Value.int _ _)) _ _ _)); (fail_if_success (with_reducible show wpAny _ _ (subscriptTail _ _ (Value.ref _) (Value.ref _)) _ _ _)); (fail_if_success (with_reducible show wpAny _ _ (compareOp _ (Value.ref _) (Value.ref _)) _ _ _)); (fail_if_success (with_reducible show LCg.CompSrc _ _ _ _ _ _ _ _ _ _ _ _ _ _)); (fail_if_success (with_reducible show LCt.CompSrcT _ _ _ _ _ _ _ _ _ _ _ _ _ _ _)); (fail_if_success (with_reducible show wpAny _ _ (binaryOp _ (Value.ref _) (Value.ref _)) _ _ _)); (fail_if_success (with_reducible show LCg.FinE _ _ _ _ _ _ _)); (fail_if_success (with_reducible show Turned _ _ _ _ _ _ _ _)); (first | (k_unfold; (try dsimp only)) | (((with_reducible show wpAny _ _ (eval (Expr.Subscript (Expr.Call (Expr.Name (Str.ofString "_law_bad") _) [] [] _) (Expr.Name (Str.ofString "kind") _) _) (envOfC _ _ _ _ _)) _ _ _); k_dflt (refine' bad_law ?sB ?sF ?sX ?sN ?sT ?sk ?shk ?sd ?su ?_; (case sB | sF | sX | sN | sT => k_asm); (case sk => walk_at "my_name"); (case shk => assumption); (case sd | su => omega); k_whole); intro _ _ _ _ _; (try k_sweep); (try k_fold))) | walk1 | (dsimp only; walk1) | ((dsimp only [List.nil_append, List.cons_append]); walk1) | (leave1; (try dsimp only)) | fail "no step")))
  all_goals first | exact Str.ofString "" | exact Value.none | exact (0 : Nat) | skip
  refine three_sub (by k_asm) (by k_mem) (take_bounds _ _ _ (by decide)) ?_
  intro x tx hx0
  have hl9 : (tableOf kind bs []).length = bs.length + 2 := tableOf_length ..
  dsimp only
  k_sweep
  rename (∀ (p : Addr × Obj), p ∈ _ → p.fst < _) => lt9
  have hn9 := fun (p : Addr × Obj) hp => Nat.ne_of_lt (lt9 p hp)
  have hA := lt9 _ (.head _)
  dsimp only at hA hn9
  iterate 11 walk1
  rename Fr _ _ _ _ => F9
  rename News _ _ _ _ => N9
  exact hq _ _ _ _ _ _ (fun p hp => lt9 p (.tail _ hp)) hx0 (by assumption) F9 (keep1 N9)
end
section
theorem rst_S8 : True := by w_top off; trivial
open LCg LCt
set_option linter.all false in
theorem stageG (w : World) (mean : ExcName → Option Value) (mg mb : Str → Option Value) (L a : Addr) (dp un : Nat) (gd : Option (List Code)) (cd : Value) (A₀ : Around) (h₀ : Heap) (m : Str → Option Value) (s : Shared) (rest : List (Addr × Obj)) (V dV : Addr) (nd : Nat) (k : Nat → Tok) (v : Nat → Value) (bpc ffc fat0 kind ini ro : Value) (lb : Addr) (us : List Value) (n : Nat) (Q : Flow → Shared → Prop) (E : Value → Shared → Prop)
    (B : Below A₀ h₀ [] h₀) (F : Fr h₀ L s.heap m) (X : (Mine.hd.heap_1 w.params).In h₀) (N : News h₀ L s.heap ((V, instObj 316 dV) :: (dV, dictOf (volEs w.params k v bpc ffc kind fat0 ini ro) nd) :: rest))
    (T : Top Mine.hd.view_39 (looseW Mine.hd.view_39 [Str.ofString "PyFATException", Str.ofString "errno", Str.ofString "PyFat"]) mean mg mb h₀)
    (hV1 : @Ne Nat V dV) (hr1 : ∀ p ∈ rest, p.1 ≠ V) (hr2 : ∀ p ∈ rest, p.1 ≠ dV)
    (mv : m (Str.ofString "volume") = some (.ref V)) (mb' : m (Str.ofString "broken") = some (.ref lb)) (mlb : (lb, listOf us.toArray n) ∈ rest) (hus : us.length ≤ 60)
    (hdp : dp + 20 < recursionLimit) (hun : un + 200 < cLine)
    (hq : ∀ r h' tk', (∀ p ∈ rest, p.1 ≠ r) → @Ne Nat r V → @Ne Nat r dV → Fr h₀ L h' m →
      News h₀ L h' ((r, lst us) :: (V, instObj 316 dV) :: (dV, dictOf (volEs w.params k v bpc ffc kind (.ref r) ini ro) nd) :: rest) → Q .next { s with heap := h', toks := tk' }) :
    wpAny (model PySem.Challenge.rw_jr0029_01.row.prog w) (arTop dp un gd (envOfC (Str.ofString "law") lsc L a cd) []) (execs ((lbody.take 17).drop 16) (envOfC (Str.ofString "law") lsc L a cd)) Q E s := by
  delta lbody lawPart
  dsimp only [List.take, List.drop]
  (repeat' ((fail_if_success (with_reducible show wpAny _ _ (exec (Stmt.For _ _ _ _ _) _) _ _ _)); (fail_if_success (with_reducible show wpAny _ _ (eval (Expr.ListComp _ _ _ _) _) _ _ _)); (fail_if_success (with_reducible show wpAny _ _ (pyIter (Value.ref _)) _ _ _)); (fail_if_success (with_reducible show wpAny _ _ (subscriptTail _ _ (Value.ref _) (Value.int _ _)) _ _ _)); (fail_if_success (with_reducible show wpAny _ _ (subscriptTail _ _ (Value.ref _) (Value.ref _)) _ _ _)); (fail_if_success (with_reducible show wpAny _ _ (compareOp _ (Value.ref _) (Value.ref _)) _ _ _)); (fail_if_success (with_reducible show LCg.CompSrc _ _ _ _ _ _ _ _ _ _ _ _ _ _)); (fail_if_success (with_reducible show LCt.CompSrcT _ _ _ _ _ _ _ _ _ _ _ _ _ _ _)); (fail_if_success (with_reducible show wpAny _ _ (binaryOp _ (Value.ref _) (Value.ref _)) _ _ _)); (fail_if_success (with_reducible show LCg.FinE _ _ _ _ _ _ _)); (fail_if_success (with_reducible show Turned _ _ _ _ _ _ _ _)); (first | (k_unfold; (try dsimp only)) | walk1 | (dsimp only; walk1) | ((dsimp only [List.nil_append, List.cons_append]); walk1) | (leave1; (try dsimp only)) | fail "no step")))
  all_goals first | exact Str.ofString "" | exact Value.none | exact (0 : Nat) | skip
  refine LCg.ListComp_U (cl := []) (F₀ := by k_asm) (by kernel_rfl!) (by decide +kernel) (by rfl) (by decide +kernel) (by kernel_rfl!) ?_
  (repeat' ((fail_if_success (with_reducible show wpAny _ _ (exec (Stmt.For _ _ _ _ _) _) _ _ _)); (fail_if_success (with_reducible show wpAny _ _ (eval (Expr.ListComp _ _ _ _) _) _ _ _)); (fail_if_success (with_reducible show wpAny _ _ (pyIter (Value.ref _)) _ _ _)); (fail_if_success (with_reducible show wpAny _ _ (subscriptTail _ _ (Value.ref _) (Value.int _ _)) _ _ _)); (fail_if_success (with_reducible show wpAny _ _ (subscriptTail _ _ (Value.ref _) (Value.ref _)) _ _ _)); (fail_if_success (with_reducible show wpAny _ _ (compareOp _ (Value.ref _) (Value.ref _)) _ _ _)); (fail_if_success (with_reducible show LCg.CompSrc _ _ _ _ _ _ _ _ _ _ _ _ _ _)); (fail_if_success (with_reducible show LCt.CompSrcT _ _ _ _ _ _ _ _ _ _ _ _ _ _ _)); (fail_if_success (with_reducible show wpAny _ _ (binaryOp _ (Value.ref _) (Value.ref _)) _ _ _)); (fail_if_success (with_reducible show LCg.FinE _ _ _ _ _ _ _)); (fail_if_success (with_reducible show Turned _ _ _ _ _ _ _ _)); (first | (k_unfold; (try dsimp only)) | walk1 | (dsimp only; walk1) | ((dsimp only [List.nil_append, List.cons_append]); walk1) | (leave1; (try dsimp only)) | fail "no step")))
  all_goals first | exact Str.ofString "" | exact Value.none | exact (0 : Nat) | skip
  refine LCg.CompSrc.ledger (its := us.toArray) (k := n) (by rfl) (by k_asm) (by k_asm) (by k_mem) (by rw [sizeLine_eq, List.size_toArray]; omega) ?_
  intro g
  dsimp only
  refine comp_ind (fun i ys => ys = us.take i) (.inr ⟨_, .tail _ (.tail _ mlb), rfl, _, rfl⟩) ?_ ?_ rfl
  · intro i v ys I oI C oC D m₂ h tk E' hi hv hg hC hx F3 N3
    (repeat' ((fail_if_success (with_reducible show wpAny _ _ (exec (Stmt.For _ _ _ _ _) _) _ _ _)); (fail_if_success (with_reducible show wpAny _ _ (eval (Expr.ListComp _ _ _ _) _) _ _ _)); (fail_if_success (with_reducible show wpAny _ _ (pyIter (Value.ref _)) _ _ _)); (fail_if_success (with_reducible show wpAny _ _ (subscriptTail _ _ (Value.ref _) (Value.int _ _)) _ _ _)); (fail_if_success (with_reducible show wpAny _ _ (subscriptTail _ _ (Value.ref _) (Value.ref _)) _ _ _)); (fail_if_success (with_reducible show wpAny _ _ (compareOp _ (Value.ref _) (Value.ref _)) _ _ _)); (fail_if_success (with_reducible show LCg.CompSrc _ _ _ _ _ _ _ _ _ _ _ _ _ _)); (fail_if_success (with_reducible show LCt.CompSrcT _ _ _ _ _ _ _ _ _ _ _ _ _ _ _)); (fail_if_success (with_reducible show wpAny _ _ (binaryOp _ (Value.ref _) (Value.ref _)) _ _ _)); (fail_if_success (with_reducible show LCg.FinE _ _ _ _ _ _ _)); (fail_if_success (with_reducible show Turned _ _ _ _ _ _ _ _)); (first | (k_unfold; (try dsimp only)) | walk1 | (dsimp only; walk1) | ((dsimp only [List.nil_append, List.cons_append]); walk1) | (leave1; (try dsimp only)) | fail "no step")))
    refine Turned.mk (by k_asm) (by k_asm) ?_
    rw [List.take_add_one, hg]
    simp only [List.getElem?_toArray] at hv
    rw [hv]; rfl
  · intro ys hg
    unfold FinE
    intro D h9 tk9 F9 N9 o9
    have hD1 : @Ne Nat D V := Ne.symm o9.1
    have hD2 : @Ne Nat D dV := Ne.symm o9.2.1
    have hD3 : ∀ p ∈ rest, p.1 ≠ D := off1_all o9.2.2
    rw [hg, List.take_of_length_le (by simp)] at N9
    dsimp only
    walk1
    all_goals first | exact Str.ofString "" | exact Value.none | exact (0 : Nat) | skip
    walk1
    all_goals first | exact Str.ofString "" | exact Value.none | exact (0 : Nat) | skip
    refine wpAny_execs_nil ?_
    rename Fr _ _ _ _ => F8
    rename News _ _ _ _ => N8
    exact hq _ _ _ hD3 hD1 hD2 F8 N8
end
section
theorem rst_T2 : True := by w_top off; trivial
open LCg LCt
/-- the body of the main loop -/
noncomputable def turnB : List Stmt := match lbody.drop 12 with | (.For _ _ b _ _) :: _ => b | _ => []
set_option linter.all false in
theorem turnA (w : World) (mean : ExcName → Option Value) (mg mb : Str → Option Value) (l L a : Addr) (vs : List Value) (ns : List Int) (dp un : Nat) (gd : Option (List Code)) (cd : Value) (A₀ : Around) (h₀ : Heap) (m : Str → Option Value) (s : Shared) (rest : List (Addr × Obj)) (kind : Int) (t1 tt : Tok) (turn : Nat) (oS oM oT oF : Obj) (vT vF : Option Value) (lm lc : Addr) (nm nc : Nat) (bs : List Bool) (rs : List Value) (chains : List (List Int)) (Q : Flow → Shared → Prop) (E : Value → Shared → Prop)
    (B : Below A₀ h₀ [] h₀) (F : Fr h₀ L s.heap m) (X : (Mine.hd.heap_1 w.params).In h₀) (N : News h₀ L s.heap ((L + 1 + 1 + 1, oT) :: (L + 1 + 1 + 1 + 1, oF) :: rest))
    (T : Top Mine.hd.view_39 (looseW Mine.hd.view_39 [Str.ofString "PyFATException", Str.ofString "errno", Str.ofString "PyFat"]) mean mg mb h₀)
    (mk : m (Str.ofString "kind") = some (.int kind t1)) (mc : m (Str.ofString "chains") = some (.ref lc)) (mt : m (Str.ofString "turn") = some (.int (0 + (turn : Int)) tt))
    (mS : (L + 1, oS) ∈ rest) (dS : oS.data = .cell (some (.ref l))) (mM : (L + 1 + 1, oM) ∈ rest) (dM : oM.data = .cell (some (.ref lm))) (dT : oT.data = .cell vT) (dF : oF.data = .cell vF) (ml : (lm, listOf (bs.map Value.bool).toArray nm) ∈ rest) (mlc : (lc, listOf rs.toArray nc) ∈ rest) (hch : ChsIn rest rs chains)
    (hD : Dis ((L + 1 + 1 + 1, oT) :: (L + 1 + 1 + 1 + 1, oF) :: rest))
    (hl : h₀.IsList l vs.toArray) (hi : IntsAre vs ns) (hn : ns.length ≤ 63)
    (hk : Kind kind) (hbl : bs.length ≤ 40) (hin : ∀ c ∈ chains, c.length ≤ 40 ∧ ∀ z ∈ c, 0 ≤ z ∧ z < (bs.length : Int) + 2) (htn : turn < 12)
    (hdp : dp + 20 < recursionLimit) (hun : un + 200 < cLine)
    (hq : ∀ lt us n lr fs n2 oF' oT' td h' tk', IntsAre us (tableOf kind bs chains) → IntsAre fs (scan (tableOf kind bs chains) 2 (bs.length + 2)) →
      oF'.data = .cell (some (.ref lr)) → oT'.data = .cell (some (.ref lt)) → Fr h₀ L h' (fun y => if y = Str.ofString "deed" then some (.int (take ns (20 + 2 * (0 + (turn : Int))) 4) td) else m y) →
      News h₀ L h' ((lr, listOf (List.toArray fs) n2) :: (lt, listOf (List.toArray us) n) :: (L + 1 + 1 + 1, oT') :: (L + 1 + 1 + 1 + 1, oF') :: rest) →
      Dis ((lr, listOf (List.toArray fs) n2) :: (lt, listOf (List.toArray us) n) :: (L + 1 + 1 + 1, oT') :: (L + 1 + 1 + 1 + 1, oF') :: rest) → Q .next { s with heap := h', toks := tk' }) :
    wpAny (model PySem.Challenge.rw_jr0029_01.row.prog w) (arTop dp un gd (envOfC (Str.ofString "law") lsc L a cd) []) (execs (turnB.take 3) (envOfC (Str.ofString "law") lsc L a cd)) Q E s := by
  delta turnB lbody lawPart
  have hr1 : ∀ p ∈ (L + 1 + 1 + 1 + 1, oF) :: rest, p.1 ≠ L + 1 + 1 + 1 := hD.head
  have hr2 : ∀ p ∈ rest, p.1 ≠ L + 1 + 1 + 1 + 1 := hD.tail.head
  dsimp only [List.take, List.drop]
  (repeat' ((fail_if_success (with_reducible show wpAny _ _ (exec (Stmt.For _ _ _ _ _) _) _ _ _)); (fail_if_success (with_reducible show wpAny _ _ (eval (Expr.ListComp _ _ _ _) _) _ _ _)); (fail_if_success (with_reducible show wpAny _ _ (pyIter (Value.ref _)) _ _ _)); (fail_if_success (with_reducible show wpAny _ _ (subscriptTail _ _ (Value.ref _) (Value.int _ _)) _ _ _)); (fail_if_success (with_reducible show wpAny _ _ (subscriptTail _ _ (Value.ref _) (Value.ref _)) _ _ _)); (fail_if_success (with_reducible show wpAny _ _ (compareOp _ (Value.ref _) (Value.ref _)) _ _ _)); (fail_if_success (with_reducible show LCg.CompSrc _ _ _ _ _ _ _ _ _ _ _ _ _ _)); (fail_if_success (with_reducible show LCt.CompSrcT _ _ _ _ _ _ _ _ _ _ _ _ _ _ _)); (fail_if_success (with_reducible show wpAny _ _ (binaryOp _ (Value.ref _) (Value.ref _)) _ _ _)); (fail_if_success (with_reducible show LCg.FinE _ _ _ _ _ _ _)); (fail_if_success (with_reducible show Turned _ _ _ _ _ _ _ _)); (first | (k_unfold; (try dsimp only)) | walk1 | (dsimp only; walk1) | ((dsimp only [List.nil_append, List.cons_append]); walk1) | (leave1; (try dsimp only)) | fail "no step")))
  all_goals first | exact Str.ofString "" | exact Value.none | exact (0 : Nat) | skip
  rename (∀ (p : Addr × Obj), p ∈ _ → p.fst < _) => lt9
  have lt8 := lt9
  have hA := lt9 _ (.head _)
  have hB := lt9 _ (.tail _ (.head _))
  dsimp only at hA hB
  have hA1 : @Ne Nat _ (L + 1 + 1 + 1) := Nat.ne_of_gt hA
  have hB1 : @Ne Nat _ (L + 1 + 1 + 1 + 1) := Nat.ne_of_gt hB
  have hLL : @Ne Nat (L + 1 + 1 + 1) (L + 1 + 1 + 1 + 1) := Ne.symm (Nat.succ_ne_self _)
  have hr3 := fun (p : Addr × Obj) hp => Nat.ne_of_lt (lt9 p hp)
  iterate 3 walk1
  all_goals first | exact Str.ofString "" | exact Value.none | exact (0 : Nat) | skip
  refine LCt.ListComp_T (cl := [(Str.ofString "table", L + 1 + 1 + 1)]) (F₀ := by k_asm) (by kernel_rfl!) (by decide +kernel) (by rfl) (by decide +kernel) (by kernel_rfl!) ?_
  have hfl : (tableOf kind bs chains).length = bs.length + 2 := tableOf_length ..
  rename IntsAre _ (tableOf kind bs chains) => hI9
  have hul := hI9.length
  (repeat' ((fail_if_success (with_reducible show wpAny _ _ (exec (Stmt.For _ _ _ _ _) _) _ _ _)); (fail_if_success (with_reducible show wpAny _ _ (eval (Expr.ListComp _ _ _ _) _) _ _ _)); (fail_if_success (with_reducible show wpAny _ _ (pyIter (Value.ref _)) _ _ _)); (fail_if_success (with_reducible show wpAny _ _ (subscriptTail _ _ (Value.ref _) (Value.int _ _)) _ _ _)); (fail_if_success (with_reducible show wpAny _ _ (subscriptTail _ _ (Value.ref _) (Value.ref _)) _ _ _)); (fail_if_success (with_reducible show wpAny _ _ (compareOp _ (Value.ref _) (Value.ref _)) _ _ _)); (fail_if_success (with_reducible show LCg.CompSrc _ _ _ _ _ _ _ _ _ _ _ _ _ _)); (fail_if_success (with_reducible show LCt.CompSrcT _ _ _ _ _ _ _ _ _ _ _ _ _ _ _)); (fail_if_success (with_reducible show wpAny _ _ (binaryOp _ (Value.ref _) (Value.ref _)) _ _ _)); (fail_if_success (with_reducible show LCg.FinE _ _ _ _ _ _ _)); (fail_if_success (with_reducible show Turned _ _ _ _ _ _ _ _)); (first | (k_unfold; (try dsimp only)) | walk1 | (dsimp only; walk1) | ((dsimp only [List.nil_append, List.cons_append]); walk1) | (leave1; (try dsimp only)) | fail "no step")))
  all_goals first | exact Str.ofString "" | exact Value.none | exact (0 : Nat) | skip
  refine LCt.CompSrcT.range (n := bs.length) (by rfl) (by k_asm) (by k_asm) (by assumption) ?r1 ?r2 ?r3 ?_
  case r1 => exact small_up (by omega) (by omega) (by omega) (by omega)
  case r2 => exact size_up (by omega)
  case r3 => rw [sizeLine_eq]; omega
  intro g
  dsimp only
  refine comp_indT (fun i ys => IntsAre ys (scan (tableOf kind bs chains) 2 (2 + i))) trivial ?_ ?_ (by rw [Nat.add_zero, scan_start]; exact .nil)
  · rintro i v ys I oI C oC D m₂ h tk E' hi ⟨tv, rfl⟩ hg hC hx F3 N3
    (repeat' ((fail_if_success (with_reducible show wpAny _ _ (exec (Stmt.For _ _ _ _ _) _) _ _ _)); (fail_if_success (with_reducible show wpAny _ _ (eval (Expr.ListComp _ _ _ _) _) _ _ _)); (fail_if_success (with_reducible show wpAny _ _ (pyIter (Value.ref _)) _ _ _)); (fail_if_success (with_reducible show wpAny _ _ (subscriptTail _ _ (Value.ref _) (Value.int _ _)) _ _ _)); (fail_if_success (with_reducible show wpAny _ _ (subscriptTail _ _ (Value.ref _) (Value.ref _)) _ _ _)); (fail_if_success (with_reducible show wpAny _ _ (compareOp _ (Value.ref _) (Value.ref _)) _ _ _)); (fail_if_success (with_reducible show LCg.CompSrc _ _ _ _ _ _ _ _ _ _ _ _ _ _)); (fail_if_success (with_reducible show LCt.CompSrcT _ _ _ _ _ _ _ _ _ _ _ _ _ _ _)); (fail_if_success (with_reducible show wpAny _ _ (binaryOp _ (Value.ref _) (Value.ref _)) _ _ _)); (fail_if_success (with_reducible show LCg.FinE _ _ _ _ _ _ _)); (fail_if_success (with_reducible show Turned _ _ _ _ _ _ _ _)); (first | (k_unfold; (try dsimp only)) | walk1 | (dsimp only; walk1) | ((dsimp only [List.nil_append, List.cons_append]); walk1) | (leave1; (try dsimp only)) | fail "no step")))
    all_goals first | exact Str.ofString "" | exact Value.none | exact (0 : Nat) | skip
    refine ksa_sub (by k_asm) (by k_mem) hI9 (by omega) (by omega) (by omega) ?_ (by with_unfolding_all rfl)
    intro t9
    have e9 : ((2 : Int) + (i : Int)).toNat = 2 + i := by omega
    rw [e9]
    (repeat' ((fail_if_success (with_reducible show wpAny _ _ (exec (Stmt.For _ _ _ _ _) _) _ _ _)); (fail_if_success (with_reducible show wpAny _ _ (eval (Expr.ListComp _ _ _ _) _) _ _ _)); (fail_if_success (with_reducible show wpAny _ _ (pyIter (Value.ref _)) _ _ _)); (fail_if_success (with_reducible show wpAny _ _ (subscriptTail _ _ (Value.ref _) (Value.int _ _)) _ _ _)); (fail_if_success (with_reducible show wpAny _ _ (subscriptTail _ _ (Value.ref _) (Value.ref _)) _ _ _)); (fail_if_success (with_reducible show wpAny _ _ (compareOp _ (Value.ref _) (Value.ref _)) _ _ _)); (fail_if_success (with_reducible show LCg.CompSrc _ _ _ _ _ _ _ _ _ _ _ _ _ _)); (fail_if_success (with_reducible show LCt.CompSrcT _ _ _ _ _ _ _ _ _ _ _ _ _ _ _)); (fail_if_success (with_reducible show wpAny _ _ (binaryOp _ (Value.ref _) (Value.ref _)) _ _ _)); (fail_if_success (with_reducible show LCg.FinE _ _ _ _ _ _ _)); (fail_if_success (with_reducible show Turned _ _ _ _ _ _ _ _)); (first | (k_unfold; (try dsimp only)) | walk1 | (dsimp only; walk1) | ((dsimp only [List.nil_append, List.cons_append]); walk1) | (leave1; (try dsimp only)) | fail "no step")))
    · refine Turned.mk (by k_asm) (by k_asm) ?_
      have e8 := scan_yes (fat := tableOf kind bs chains) (a := 2) (p := 2 + i) (by omega) (by omega) (by first | assumption | omega)
      rw [show 2 + (i + 1) = 2 + i + 1 by omega, e8]
      exact hg.append (.cons _ _ .nil)
    · refine Turned.mk (by k_asm) (by k_asm) ?_
      have e8 := scan_no (fat := tableOf kind bs chains) (a := 2) (p := 2 + i) (fun _ => by first | assumption | omega)
      rw [show 2 + (i + 1) = 2 + i + 1 by omega, e8]
      exact hg
  · intro ys hg
    walk_at "FinE"
    rename (_ ∧ _ ∧ _ ∧ Off1 _ rest) => o9
    have hD1 := o9.1
    have hD2 := o9.2.1
    have hD3 := o9.2.2.1
    have hD4 := off1_all o9.2.2.2
    have hE1 := Ne.symm hD1
    have hE2 := Ne.symm hD2
    have hE3 := Ne.symm hD3
    (repeat' ((fail_if_success (with_reducible show wpAny _ _ (exec (Stmt.For _ _ _ _ _) _) _ _ _)); (fail_if_success (with_reducible show wpAny _ _ (eval (Expr.ListComp _ _ _ _) _) _ _ _)); (fail_if_success (with_reducible show wpAny _ _ (pyIter (Value.ref _)) _ _ _)); (fail_if_success (with_reducible show wpAny _ _ (subscriptTail _ _ (Value.ref _) (Value.int _ _)) _ _ _)); (fail_if_success (with_reducible show wpAny _ _ (subscriptTail _ _ (Value.ref _) (Value.ref _)) _ _ _)); (fail_if_success (with_reducible show wpAny _ _ (compareOp _ (Value.ref _) (Value.ref _)) _ _ _)); (fail_if_success (with_reducible show LCg.CompSrc _ _ _ _ _ _ _ _ _ _ _ _ _ _)); (fail_if_success (with_reducible show LCt.CompSrcT _ _ _ _ _ _ _ _ _ _ _ _ _ _ _)); (fail_if_success (with_reducible show wpAny _ _ (binaryOp _ (Value.ref _) (Value.ref _)) _ _ _)); (fail_if_success (with_reducible show LCg.FinE _ _ _ _ _ _ _)); (fail_if_success (with_reducible show Turned _ _ _ _ _ _ _ _)); (first | (k_unfold; (try dsimp only)) | walk1 | (dsimp only; walk1) | ((dsimp only [List.nil_append, List.cons_append]); walk1) | (leave1; (try dsimp only)) | fail "no step")))
    all_goals first | exact Str.ofString "" | exact Value.none | exact (0 : Nat) | skip
    rename Fr _ _ _ _ => F9
    rename News _ _ _ _ => N9
    refine hq _ _ _ _ _ _ _ _ _ _ _ hI9 (by rw [Nat.add_comm]; exact hg) (by assumption) (by assumption) F9 N9 ?_
    refine ((((hD.tail.put).cons ?_).cons ?_).cons ?_)
    · intro q hq
      rcases List.mem_cons.mp hq with rfl | hq
      · exact Ne.symm hLL
      exact hD.head q (.tail _ hq)
    · intro q hq
      refine Nat.ne_of_lt ?_
      rcases List.mem_cons.mp hq with rfl | hq
      · exact hA
      rcases List.mem_cons.mp hq with rfl | hq
      · exact hB
      exact lt9 q (.tail _ (.tail _ hq))
    · intro q hq
      rcases List.mem_cons.mp hq with rfl | hq
      · exact hD1
      rcases List.mem_cons.mp hq with rfl | hq
      · exact hD2
      rcases List.mem_cons.mp hq with rfl | hq
      · exact hD3
      exact hD4 q hq
end
section
theorem rst_T3 : True := by w_top off; trivial
open LCg LCt
set_option linter.all false in
theorem turnC (w : World) (mean : ExcName → Option Value) (mg mb : Str → Option Value) (L a : Addr) (dp un : Nat) (gd : Option (List Code)) (cd : Value) (A₀ : Around) (h₀ : Heap) (m : Str → Option Value) (s : Shared) (news : List (Addr × Obj)) (V dV lf : Addr) (nd nf : Nat) (k : Nat → Tok) (v : Nat → Value) (bpc ffc kv ini ro : Value) (fvs : List Value) (kind : Int) (t1 : Tok) (oM : Obj) (lm lc : Addr) (nm nc : Nat) (bs : List Bool) (rs : List Value) (chains : List (List Int)) (Q : Flow → Shared → Prop) (E : Value → Shared → Prop)
    (B : Below A₀ h₀ [] h₀) (F : Fr h₀ L s.heap m) (X : (Mine.hd.heap_1 w.params).In h₀) (N : News h₀ L s.heap news)
    (T : Top Mine.hd.view_39 (looseW Mine.hd.view_39 [Str.ofString "PyFATException", Str.ofString "errno", Str.ofString "PyFat"]) mean mg mb h₀)
    (mV : (V, instObj 316 dV) ∈ news) (mdV : (dV, dictOf (volEs w.params k v bpc ffc kv (.ref lf) ini ro) nd) ∈ news) (mlf : (lf, listOf fvs.toArray nf) ∈ news) (hfat : IntsAre fvs (tableOf kind bs chains))
    (mk : m (Str.ofString "kind") = some (.int kind t1)) (mv : m (Str.ofString "volume") = some (.ref V)) (mc : m (Str.ofString "chains") = some (.ref lc))
    (mM : (L + 1 + 1, oM) ∈ news) (dM : oM.data = .cell (some (.ref lm))) (ml : (lm, listOf (bs.map Value.bool).toArray nm) ∈ news) (mlc : (lc, listOf rs.toArray nc) ∈ news) (hch : ChsIn news rs chains)
    (hk : Kind kind) (hbl : bs.length ≤ 40) (hin : ∀ c ∈ chains, c.length ≤ 40 ∧ ∀ z ∈ c, 0 ≤ z ∧ z < (bs.length : Int) + 2)
    (hdp : dp + 20 < recursionLimit) (hun : un + 200 < cLine)
    (hq : ∀ h' tk', Fr h₀ L h' m → News h₀ L h' news → Q .next { s with heap := h', toks := tk' }) :
    wpAny (model PySem.Challenge.rw_jr0029_01.row.prog w) (arTop dp un gd (envOfC (Str.ofString "law") lsc L a cd) []) (execs ((turnB.take 5).drop 4) (envOfC (Str.ofString "law") lsc L a cd)) Q E s := by
  delta turnB lbody lawPart
  dsimp only [List.take, List.drop]
  (repeat' ((fail_if_success (with_reducible show wpAny _ _ (exec (Stmt.For _ _ _ _ _) _) _ _ _)); (fail_if_success (with_reducible show wpAny _ _ (eval (Expr.ListComp _ _ _ _) _) _ _ _)); (fail_if_success (with_reducible show wpAny _ _ (pyIter (Value.ref _)) _ _ _)); (fail_if_success (with_reducible show wpAny _ _ (subscriptTail _ _ (Value.ref _) (Value.int _ _)) _ _ _)); (fail_if_success (with_reducible show wpAny _ _ (subscriptTail _ _ (Value.ref _) (Value.ref _)) _ _ _)); (fail_if_success (with_reducible show wpAny _ _ (compareOp _ (Value.ref _) (Value.ref _)) _ _ _)); (fail_if_success (with_reducible show LCg.CompSrc _ _ _ _ _ _ _ _ _ _ _ _ _ _)); (fail_if_success (with_reducible show LCt.CompSrcT _ _ _ _ _ _ _ _ _ _ _ _ _ _ _)); (fail_if_success (with_reducible show wpAny _ _ (binaryOp _ (Value.ref _) (Value.ref _)) _ _ _)); (fail_if_success (with_reducible show LCg.FinE _ _ _ _ _ _ _)); (fail_if_success (with_reducible show Turned _ _ _ _ _ _ _ _)); (first | (k_unfold; (try dsimp only)) | walk1 | (dsimp only; walk1) | ((dsimp only [List.nil_append, List.cons_append]); walk1) | (leave1; (try dsimp only)) | fail "no step")))
  all_goals first | exact Str.ofString "" | exact Value.none | exact (0 : Nat) | skip
  rename IntsAre _ (tableOf kind bs chains) => hI9
  refine ne_intsK (vs := fvs) (us := _) (ms := _) (by kmk_list) hfat (by kmk_list) hI9 (by first | ktr_room | (show un + 64 < cLine; omega) | (show un + 1 + 64 < cLine; omega)) ?_
  rw [decide_eq_true (rfl : tableOf kind bs chains = tableOf kind bs chains), Bool.not_true]
  (repeat' ((fail_if_success (with_reducible show wpAny _ _ (exec (Stmt.For _ _ _ _ _) _) _ _ _)); (fail_if_success (with_reducible show wpAny _ _ (eval (Expr.ListComp _ _ _ _) _) _ _ _)); (fail_if_success (with_reducible show wpAny _ _ (pyIter (Value.ref _)) _ _ _)); (fail_if_success (with_reducible show wpAny _ _ (subscriptTail _ _ (Value.ref _) (Value.int _ _)) _ _ _)); (fail_if_success (with_reducible show wpAny _ _ (subscriptTail _ _ (Value.ref _) (Value.ref _)) _ _ _)); (fail_if_success (with_reducible show wpAny _ _ (compareOp _ (Value.ref _) (Value.ref _)) _ _ _)); (fail_if_success (with_reducible show LCg.CompSrc _ _ _ _ _ _ _ _ _ _ _ _ _ _)); (fail_if_success (with_reducible show LCt.CompSrcT _ _ _ _ _ _ _ _ _ _ _ _ _ _ _)); (fail_if_success (with_reducible show wpAny _ _ (binaryOp _ (Value.ref _) (Value.ref _)) _ _ _)); (fail_if_success (with_reducible show LCg.FinE _ _ _ _ _ _ _)); (fail_if_success (with_reducible show Turned _ _ _ _ _ _ _ _)); (first | (k_unfold; (try dsimp only)) | walk1 | (dsimp only; walk1) | ((dsimp only [List.nil_append, List.cons_append]); walk1) | (leave1; (try dsimp only)) | fail "no step")))
  rename Fr _ _ _ _ => F9
  rename News _ _ _ _ => N9
  exact hq _ _ F9 (fun p hp => N9 p (.tail _ hp))
end
section
theorem rst_T4 : True := by w_top off; trivial
open LCg LCt
set_option linter.all false in
theorem turnD (w : World) (mean : ExcName → Option Value) (mg mb : Str → Option Value) (L a : Addr) (dp un : Nat) (gd : Option (List Code)) (cd : Value) (A₀ : Around) (h₀ : Heap) (m : Str → Option Value) (s : Shared) (news : List (Addr × Obj)) (V dV lf : Addr) (nd nf : Nat) (k : Nat → Tok) (v : Nat → Value) (bpc ffc ro : Value) (fvs : List Value) (kind : Int) (t3 : Tok) (lc : Addr) (nc : Nat) (bs : List Bool) (rs : List Value) (chains : List (List Int)) (Q : Flow → Shared → Prop)
    (B : Below A₀ h₀ [] h₀) (F : Fr h₀ L s.heap m) (X : (Mine.hd.heap_1 w.params).In h₀) (N : News h₀ L s.heap news)
    (T : Top Mine.hd.view_39 (looseW Mine.hd.view_39 [Str.ofString "PyFATException", Str.ofString "errno", Str.ofString "PyFat"]) mean mg mb h₀)
    (mV : (V, instObj 316 dV) ∈ news) (mdV : (dV, dictOf (volEs w.params k v bpc ffc (.int kind t3) (.ref lf) (.bool true) ro) nd) ∈ news) (mlf : (lf, listOf fvs.toArray nf) ∈ news) (hfat : IntsAre fvs (tableOf kind bs chains))
    (mv : m (Str.ofString "volume") = some (.ref V)) (mc : m (Str.ofString "chains") = some (.ref lc))
    (mlc : (lc, listOf rs.toArray nc) ∈ news) (hch : ChsIn news rs chains)
    (hk : Kind kind) (W : WF bs chains) (hlen : ∀ c ∈ chains, c.length ≤ 30) (hgb : AllBare s.gens) (hbl : bs.length ≤ 40)
    (hdp : dp + 20 < recursionLimit) (hun : un + 200 < cLine)
    (hq : ∀ h' tk' gens' m', AllBare gens' → (∀ y, y ≠ Str.ofString "chain" → m' y = m y) → Fr h₀ L h' m' → News h₀ L h' news → Q .next { s with heap := h', toks := tk', gens := gens' }) :
    wpAny (model PySem.Challenge.rw_jr0029_01.row.prog w) (arTop dp un gd (envOfC (Str.ofString "law") lsc L a cd) []) (execs ((turnB.take 6).drop 5) (envOfC (Str.ofString "law") lsc L a cd)) Q (fun _ _ => False) s := by
  delta turnB lbody lawPart
  dsimp only [List.take, List.drop]
  (repeat' ((fail_if_success (with_reducible show wpAny _ _ (exec (Stmt.For _ _ _ _ _) _) _ _ _)); (fail_if_success (with_reducible show wpAny _ _ (eval (Expr.ListComp _ _ _ _) _) _ _ _)); (fail_if_success (with_reducible show wpAny _ _ (pyIter (Value.ref _)) _ _ _)); (fail_if_success (with_reducible show wpAny _ _ (subscriptTail _ _ (Value.ref _) (Value.int _ _)) _ _ _)); (fail_if_success (with_reducible show wpAny _ _ (subscriptTail _ _ (Value.ref _) (Value.ref _)) _ _ _)); (fail_if_success (with_reducible show wpAny _ _ (compareOp _ (Value.ref _) (Value.ref _)) _ _ _)); (fail_if_success (with_reducible show LCg.CompSrc _ _ _ _ _ _ _ _ _ _ _ _ _ _)); (fail_if_success (with_reducible show LCt.CompSrcT _ _ _ _ _ _ _ _ _ _ _ _ _ _ _)); (fail_if_success (with_reducible show wpAny _ _ (binaryOp _ (Value.ref _) (Value.ref _)) _ _ _)); (fail_if_success (with_reducible show LCg.FinE _ _ _ _ _ _ _)); (fail_if_success (with_reducible show Turned _ _ _ _ _ _ _ _)); (first | (k_unfold; (try dsimp only)) | (((with_reducible show wpAny _ _ (call (Value.ref 355) _) _ _ _); k_dflt (refine' walk_claim _ _ _ _ _ _ _ _ _ _ _ _ _ _ _ _ _ _ _ _ _ _ _ _ _ _ _ _ _ _ _ _ _ _ _ ?sB ?sF ?sX ?sN ?sT ?sK ?sf ?sV ?sdV ?slf ?sfat ?sk ?slen ?sch ?sc0 ?scl ?sc9 ?sgb ?sd ?su ?_; (case sB | sF | sX | sN | sT => k_asm); (case sK | sf => exact rfl); (case sV | sdV | slf => k_mem); (case sfat | sk => assumption); (case slen => omega); (case sch => exact lies_of (by assumption) (by assumption)); (case sc0 => exact rfl); (case scl | sc9 => omega); (case sgb => assumption); (case sd | su => omega); k_whole); intro _ _ _ _ _ _ _ _ _ _ _; (try k_sweep); (try k_fold))) | walk1 | (dsimp only; walk1) | ((dsimp only [List.nil_append, List.cons_append]); walk1) | (leave1; (try dsimp only)) | fail "no step")))
  refine wpAny_For ?_
  walk1
  all_goals first | exact Str.ofString "" | exact Value.none | exact (0 : Nat) | skip
  refine wpAny_mono (iter_gL (items := rs) (nn := nc) (fun i m₁ nx => nx = news ∧ ∀ y, y ≠ Str.ofString "chain" → m₁ y = m y) (by kernel_rfl!) (by kernel_rfl!) rfl mlc F N ⟨rfl, fun _ _ => rfl⟩ hgb ?hlJ ?turn ?done) (fun _ _ h => h) (fun _ _ h => h.elim)
  case hlJ =>
    rintro i m₁ nx ⟨rfl, _⟩
    exact mlc
  case turn =>
    rintro i x m₁ nx h tk gens9 I oI m₂ hx9 hb9 hoff ⟨rfl, hm⟩ hx hy F₂ N₂
    replace F₂ : Fr h₀ L h m₂ := F₂
    replace N₂ : News h₀ L h ((I, oI) :: nx) := N₂
    obtain ⟨ac, nac, cvs, c, rfl, hci, hcm, hcint⟩ := hch.get i x hx9
    have hcc := List.mem_of_getElem? hci
    have hc0 : 0 < c.length := List.length_pos_iff.mpr (W.ne c hcc)
    have k1 := (hy (Str.ofString "volume") (by decide)).trans ((hm _ (by decide)).trans mv)
    have k9 : ∀ y, y ≠ Str.ofString "chain" → m₂ y = m y := fun y h => (hy y h).trans (hm y h)
    clear hy hm F N
    have hc9 := hlen c hcc
    have hfl : (tableOf kind bs chains).length = bs.length + 2 := tableOf_length ..
    refine wpAny_mono (E := fun _ _ => False) ?_ (fun _ _ h => h) (fun _ _ h => h.elim)
    walk1
    all_goals first | exact Str.ofString "" | exact Value.none | exact (0 : Nat) | skip
    (repeat' ((fail_if_success (with_reducible show wpAny _ _ (exec (Stmt.For _ _ _ _ _) _) _ _ _)); (fail_if_success (with_reducible show wpAny _ _ (eval (Expr.ListComp _ _ _ _) _) _ _ _)); (fail_if_success (with_reducible show wpAny _ _ (pyIter (Value.ref _)) _ _ _)); (fail_if_success (with_reducible show wpAny _ _ (subscriptTail _ _ (Value.ref _) (Value.int _ _)) _ _ _)); (fail_if_success (with_reducible show wpAny _ _ (subscriptTail _ _ (Value.ref _) (Value.ref _)) _ _ _)); (fail_if_success (with_reducible show wpAny _ _ (compareOp _ (Value.ref _) (Value.ref _)) _ _ _)); (fail_if_success (with_reducible show LCg.CompSrc _ _ _ _ _ _ _ _ _ _ _ _ _ _)); (fail_if_success (with_reducible show LCt.CompSrcT _ _ _ _ _ _ _ _ _ _ _ _ _ _ _)); (fail_if_success (with_reducible show wpAny _ _ (binaryOp _ (Value.ref _) (Value.ref _)) _ _ _)); (fail_if_success (with_reducible show LCg.FinE _ _ _ _ _ _ _)); (fail_if_success (with_reducible show Turned _ _ _ _ _ _ _ _)); (first | (k_unfold; (try dsimp only)) | (((with_reducible show wpAny _ _ (call (Value.ref 355) _) _ _ _); k_dflt (refine' walk_claim _ _ _ _ _ _ _ _ _ _ _ _ _ _ _ _ _ _ _ _ _ _ _ _ _ _ _ _ _ _ _ _ _ _ _ ?sB ?sF ?sX ?sN ?sT ?sK ?sf ?sV ?sdV ?slf ?sfat ?sk ?slen ?sch ?sc0 ?scl ?sc9 ?sgb ?sd ?su ?_; (case sB | sF | sX | sN | sT => k_asm); (case sK | sf => exact rfl); (case sV | sdV | slf => k_mem); (case sfat | sk => assumption); (case slen => omega); (case sch => exact lies_of (by assumption) (by assumption)); (case sc0 => exact rfl); (case scl | sc9 => omega); (case sgb => assumption); (case sd | su => omega); k_whole); intro _ _ _ _ _ _ _ _ _ _ _; (try k_sweep); (try k_fold))) | walk1 | (dsimp only; walk1) | ((dsimp only [List.nil_append, List.cons_append]); walk1) | (leave1; (try dsimp only)) | fail "no step")))
    all_goals first | exact Str.ofString "" | exact Value.none | exact (0 : Nat) | skip
    refine ksa_sub (by k_asm) (by k_mem) hcint (by decide) (by omega) (by decide) ?_ (by with_unfolding_all rfl)
    intro t9
    (repeat' ((fail_if_success (with_reducible show wpAny _ _ (exec (Stmt.For _ _ _ _ _) _) _ _ _)); (fail_if_success (with_reducible show wpAny _ _ (eval (Expr.ListComp _ _ _ _) _) _ _ _)); (fail_if_success (with_reducible show wpAny _ _ (pyIter (Value.ref _)) _ _ _)); (fail_if_success (with_reducible show wpAny _ _ (subscriptTail _ _ (Value.ref _) (Value.int _ _)) _ _ _)); (fail_if_success (with_reducible show wpAny _ _ (subscriptTail _ _ (Value.ref _) (Value.ref _)) _ _ _)); (fail_if_success (with_reducible show wpAny _ _ (compareOp _ (Value.ref _) (Value.ref _)) _ _ _)); (fail_if_success (with_reducible show LCg.CompSrc _ _ _ _ _ _ _ _ _ _ _ _ _ _)); (fail_if_success (with_reducible show LCt.CompSrcT _ _ _ _ _ _ _ _ _ _ _ _ _ _ _)); (fail_if_success (with_reducible show wpAny _ _ (binaryOp _ (Value.ref _) (Value.ref _)) _ _ _)); (fail_if_success (with_reducible show LCg.FinE _ _ _ _ _ _ _)); (fail_if_success (with_reducible show Turned _ _ _ _ _ _ _ _)); (first | (k_unfold; (try dsimp only)) | (((with_reducible show wpAny _ _ (call (Value.ref 355) _) _ _ _); k_dflt (refine' walk_claim _ _ _ _ _ _ _ _ _ _ _ _ _ _ _ _ _ _ _ _ _ _ _ _ _ _ _ _ _ _ _ _ _ _ _ ?sB ?sF ?sX ?sN ?sT ?sK ?sf ?sV ?sdV ?slf ?sfat ?sk ?slen ?sch ?sc0 ?scl ?sc9 ?sgb ?sd ?su ?_; (case sB | sF | sX | sN | sT => k_asm); (case sK | sf => exact rfl); (case sV | sdV | slf => k_mem); (case sfat | sk => assumption); (case slen => omega); (case sch => exact lies_of (by assumption) (by assumption)); (case sc0 => exact rfl); (case scl | sc9 => omega); (case sgb => assumption); (case sd | su => omega); k_whole); intro _ _ _ _ _ _ _ _ _ _ _; (try k_sweep); (try k_fold))) | walk1 | (dsimp only; walk1) | ((dsimp only [List.nil_append, List.cons_append]); walk1) | (leave1; (try dsimp only)) | fail "no step")))
    all_goals first | exact Str.ofString "" | exact Value.none | exact (0 : Nat) | skip
    rename IntsAre _ c => hI9
    k_unfold
    dsimp only
    refine ne_intsK (us := cvs) (vs := _) (by kmk_list) hI9 (by kmk_list) hcint (by first | ktr_room | (show un + 64 < cLine; omega) | (show un + 1 + 64 < cLine; omega)) ?_
    rw [decide_eq_true (rfl : c = c), Bool.not_true]
    (repeat' ((fail_if_success (with_reducible show wpAny _ _ (exec (Stmt.For _ _ _ _ _) _) _ _ _)); (fail_if_success (with_reducible show wpAny _ _ (eval (Expr.ListComp _ _ _ _) _) _ _ _)); (fail_if_success (with_reducible show wpAny _ _ (pyIter (Value.ref _)) _ _ _)); (fail_if_success (with_reducible show wpAny _ _ (subscriptTail _ _ (Value.ref _) (Value.int _ _)) _ _ _)); (fail_if_success (with_reducible show wpAny _ _ (subscriptTail _ _ (Value.ref _) (Value.ref _)) _ _ _)); (fail_if_success (with_reducible show wpAny _ _ (compareOp _ (Value.ref _) (Value.ref _)) _ _ _)); (fail_if_success (with_reducible show LCg.CompSrc _ _ _ _ _ _ _ _ _ _ _ _ _ _)); (fail_if_success (with_reducible show LCt.CompSrcT _ _ _ _ _ _ _ _ _ _ _ _ _ _ _)); (fail_if_success (with_reducible show wpAny _ _ (binaryOp _ (Value.ref _) (Value.ref _)) _ _ _)); (fail_if_success (with_reducible show LCg.FinE _ _ _ _ _ _ _)); (fail_if_success (with_reducible show Turned _ _ _ _ _ _ _ _)); (first | (k_unfold; (try dsimp only)) | (((with_reducible show wpAny _ _ (call (Value.ref 355) _) _ _ _); k_dflt (refine' walk_claim _ _ _ _ _ _ _ _ _ _ _ _ _ _ _ _ _ _ _ _ _ _ _ _ _ _ _ _ _ _ _ _ _ _ _ ?sB ?sF ?sX ?sN ?sT ?sK ?sf ?sV ?sdV ?slf ?sfat ?sk ?slen ?sch ?sc0 ?scl ?sc9 ?sgb ?sd ?su ?_; (case sB | sF | sX | sN | sT => k_asm); (case sK | sf => exact rfl); (case sV | sdV | slf => k_mem); (case sfat | sk => assumption); (case slen => omega); (case sch => exact lies_of (by assumption) (by assumption)); (case sc0 => exact rfl); (case scl | sc9 => omega); (case sgb => assumption); (case sd | su => omega); k_whole); intro _ _ _ _ _ _ _ _ _ _ _; (try k_sweep); (try k_fold))) | walk1 | (dsimp only; walk1) | ((dsimp only [List.nil_append, List.cons_append]); walk1) | (leave1; (try dsimp only)) | fail "no step")))
    rename Fr _ _ _ _ => F9
    rename News _ _ _ _ => N9
    rename AllBare _ => hb8
    exact ⟨_, _, _, _, _, rfl, hb8, F9, fun p hp => N9 p (.tail _ hp), hoff, rfl, k9⟩
  case done =>
    rintro m₁ nx h tk gens9 hb9 ⟨rfl, hm⟩ F₂ N₂
    exact wpAny_execs_nil (hq _ _ _ _ hb9 hm F₂ N₂)
end
section
theorem rst_T5 : True := by w_top off; trivial
open LCg LCt
/-- the two branches of the deed -/
noncomputable def freeB : List Stmt := match turnB.drop 3 with | (.If _ b _ _) :: _ => b | _ => []
noncomputable def giveB : List Stmt := match turnB.drop 3 with | (.If _ _ b _) :: _ => b | _ => []
theorem ChsIn.take {news : List (Addr × Obj)} {rs : List Value} {cs : List (List Int)} (h : ChsIn news rs cs) : ∀ i, ChsIn news (rs.take i) (cs.take i) := by
  induction h with
  | nil => intro i; rw [List.take_nil, List.take_nil]; exact .nil
  | cons hm hi _ ih =>
    intro i
    cases i with
    | zero => exact .nil
    | succ i => exact .cons hm hi (ih i)
theorem ChsIn.drop {news : List (Addr × Obj)} {rs : List Value} {cs : List (List Int)} (h : ChsIn news rs cs) : ∀ i, ChsIn news (rs.drop i) (cs.drop i) := by
  induction h with
  | nil => intro i; rw [List.drop_nil, List.drop_nil]; exact .nil
  | cons hm hi hr ih =>
    intro i
    cases i with
    | zero => exact .cons hm hi hr
    | succ i => exact ih i
theorem ChsIn.append {news : List (Addr × Obj)} {rs rs' : List Value} {cs cs' : List (List Int)} (h : ChsIn news rs cs) (h' : ChsIn news rs' cs') : ChsIn news (rs ++ rs') (cs ++ cs') := by
  induction h with
  | nil => exact h'
  | cons hm hi _ ih => exact .cons hm hi ih
theorem pick5 {h₀ h : Heap} {L : Addr} {a b c d e f g : Addr × Obj} {rest : List (Addr × Obj)} (N : News h₀ L h (a :: b :: c :: d :: e :: f :: g :: rest)) : News h₀ L h (a :: d :: e :: f :: rest) := fun p hp => N p (by
  simp only [List.mem_cons] at hp ⊢
  rcases hp with h | h | h | h | h
  · exact .inl h
  · exact .inr (.inr (.inr (.inl h)))
  · exact .inr (.inr (.inr (.inr (.inl h))))
  · exact .inr (.inr (.inr (.inr (.inr (.inl h)))))
  · exact .inr (.inr (.inr (.inr (.inr (.inr (.inr h)))))))
set_option linter.all false in
theorem turnFree (w : World) (mean : ExcName → Option Value) (mg mb : Str → Option Value) (l L a : Addr) (vs : List Value) (ns : List Int) (dp un : Nat) (gd : Option (List Code)) (cd : Value) (A₀ : Around) (h₀ : Heap) (m : Str → Option Value) (s : Shared) (rest : List (Addr × Obj)) (V dV lf : Addr) (nd nf : Nat) (k : Nat → Tok) (v : Nat → Value) (bpc : Value) (ffc kind : Int) (fvs : List Value) (t2 t3 tt : Tok) (turn : Nat) (oS : Obj) (lc : Addr) (nc : Nat) (bs : List Bool) (rs : List Value) (chains : List (List Int)) (Q : Flow → Shared → Prop)
    (B : Below A₀ h₀ [] h₀) (F : Fr h₀ L s.heap m) (X : (Mine.hd.heap_1 w.params).In h₀) (N : News h₀ L s.heap ((V, instObj 316 dV) :: (dV, dictOf (volEs w.params k v bpc (.int ffc t2) (.int kind t3) (.ref lf) (.bool true) (.bool false)) nd) :: (lf, listOf fvs.toArray nf) :: rest))
    (T : Top Mine.hd.view_39 (looseW Mine.hd.view_39 [Str.ofString "PyFATException", Str.ofString "errno", Str.ofString "PyFat"]) mean mg mb h₀)
    (hV1 : @Ne Nat V dV) (hV2 : @Ne Nat V lf) (hV3 : @Ne Nat dV lf) (hr1 : ∀ p ∈ rest, p.1 ≠ V) (hr2 : ∀ p ∈ rest, p.1 ≠ dV) (hr3 : ∀ p ∈ rest, p.1 ≠ lf)
    (hfat : IntsAre fvs (tableOf kind bs chains)) (mv : m (Str.ofString "volume") = some (.ref V)) (mc : m (Str.ofString "chains") = some (.ref lc)) (mt : m (Str.ofString "turn") = some (.int (0 + (turn : Int)) tt))
    (mS : (L + 1, oS) ∈ rest) (dS : oS.data = .cell (some (.ref l))) (mlc : (lc, listOf rs.toArray nc) ∈ rest) (hch : ChsIn rest rs chains)
    (hl : h₀.IsList l vs.toArray) (hi : IntsAre vs ns) (hn : ns.length ≤ 63) (hk : Kind kind) (W : WF bs chains) (hFF : FF (tableOf kind bs chains) ffc) (hne : 0 < chains.length) (hcn : chains.length ≤ 40) (hgb : AllBare s.gens) (hbl : bs.length ≤ 40) (htn : turn < 12)
    (hdp : dp + 20 < recursionLimit) (hun : un + 200 < cLine)
    (hq : ∀ i lf' us n' lc' rs' ffc' t' h' tk' gens' m', AllBare gens' → i < chains.length → IntsAre us (tableOf kind bs (chains.take i ++ chains.drop (i + 1))) → FF (tableOf kind bs (chains.take i ++ chains.drop (i + 1))) ffc' → ChsIn rest rs' (chains.take i ++ chains.drop (i + 1)) →
      (∀ p ∈ (V, instObj 316 dV) :: (dV, dictOf (volEs w.params k v bpc (.int ffc' t') (.int kind t3) (.ref lf') (.bool true) (.bool false)) nd) :: rest, p.1 < lf') → @LT.lt Nat _ lf' lc' →
      m' (Str.ofString "chains") = some (.ref lc') → (∀ y, y ≠ Str.ofString "chains" → y ≠ Str.ofString "at" → m' y = m y) → Fr h₀ L h' m' →
      News h₀ L h' ((lc', listOf (List.toArray rs') 0) :: (lf', listOf (List.toArray us) n') :: (V, instObj 316 dV) :: (dV, dictOf (volEs w.params k v bpc (.int ffc' t') (.int kind t3) (.ref lf') (.bool true) (.bool false)) nd) :: rest) → Q .next { s with heap := h', toks := tk', gens := gens' }) :
    wpAny (model PySem.Challenge.rw_jr0029_01.row.prog w) (arTop dp un gd (envOfC (Str.ofString "law") lsc L a cd) []) (execs freeB (envOfC (Str.ofString "law") lsc L a cd)) Q (fun _ _ => False) s := by
  delta freeB turnB lbody lawPart
  dsimp only [List.take, List.drop]
  have hfl : (tableOf kind bs chains).length = bs.length + 2 := tableOf_length ..
  have hrl := hch.length
  have hff := hFF.1
  have hff2 := hFF.2.1
  have hb := take_bounds ns (21 + 2 * (0 + (turn : Int))) (chains.length : Int) (by omega)
  obtain ⟨i, hti, hil⟩ : ∃ i : Nat, take ns (21 + 2 * (0 + (turn : Int))) (chains.length : Int) = (i : Int) ∧ i < chains.length := ⟨(take ns (21 + 2 * (0 + (turn : Int))) (chains.length : Int)).toNat, by omega, by omega⟩
  obtain ⟨ac, nac, cvs, c, hrv, hci, hcm, hcint⟩ := hch.get i rs[i] (List.getElem?_eq_getElem (by omega))
  have hrv2 : rs[i]? = some (.ref ac) := by rw [← hrv]; exact List.getElem?_eq_getElem (by omega)
  have hcc := List.mem_of_getElem? hci
  have hc0 : 0 < c.length := List.length_pos_iff.mpr (W.ne c hcc)
  (repeat' ((fail_if_success (with_reducible show wpAny _ _ (exec (Stmt.For _ _ _ _ _) _) _ _ _)); (fail_if_success (with_reducible show wpAny _ _ (eval (Expr.ListComp _ _ _ _) _) _ _ _)); (fail_if_success (with_reducible show wpAny _ _ (pyIter (Value.ref _)) _ _ _)); (fail_if_success (with_reducible show wpAny _ _ (subscriptTail _ _ (Value.ref _) (Value.int _ _)) _ _ _)); (fail_if_success (with_reducible show wpAny _ _ (subscriptTail _ _ (Value.ref _) (Value.ref _)) _ _ _)); (fail_if_success (with_reducible show wpAny _ _ (compareOp _ (Value.ref _) (Value.ref _)) _ _ _)); (fail_if_success (with_reducible show LCg.CompSrc _ _ _ _ _ _ _ _ _ _ _ _ _ _)); (fail_if_success (with_reducible show LCt.CompSrcT _ _ _ _ _ _ _ _ _ _ _ _ _ _ _)); (fail_if_success (with_reducible show wpAny _ _ (binaryOp _ (Value.ref _) (Value.ref _)) _ _ _)); (fail_if_success (with_reducible show LCg.FinE _ _ _ _ _ _ _)); (fail_if_success (with_reducible show Turned _ _ _ _ _ _ _ _)); (first | (k_unfold; (try dsimp only)) | (((with_reducible show wpAny _ _ (call (Value.ref 189) _) _ _ _); k_dflt (refine' free_claim _ _ _ _ _ _ _ _ _ _ _ _ _ _ _ _ _ _ _ _ _ _ _ _ _ _ _ _ _ _ _ _ _ _ _ ?sB ?sF ?sX ?sN ?sT ?sK ?sf ?s1 ?s2 ?s3 ?s4 ?s5 ?s6 ?sfat ?sk ?slen ?sch ?sc0 ?scl ?sff ?sgb ?sd ?su ?_; (case sB | sF | sX | sN | sT => k_asm); (case sK | sf => exact rfl); (case s1 | s2 | s3 | s4 | s5 | s6 | sfat | sk => assumption); (case slen => omega); (case sch => exact lies_of (by assumption) (by assumption)); (case sc0 => exact rfl); (case scl | sff => omega); (case sgb => assumption); (case sd | su => omega); k_whole); intro _ _ _ _ _ _ _ _ _ _ _ _; (try k_sweep); (try k_fold))) | walk1 | (dsimp only; walk1) | ((dsimp only [List.nil_append, List.cons_append]); walk1) | (leave1; (try dsimp only)) | fail "no step")))
  all_goals first | exact Str.ofString "" | exact Value.none | exact (0 : Nat) | skip
  rw [hti]
  refine kim_list (l := rs) (n := nc) (x := .ref ac) (by k_asm) (by k_mem) rfl rfl (by omega) (by omega) hrv2 ?_
  walk1
  refine sub_temp (n := Str.ofString "chains") (p := ⟨0, 0, 0, 0⟩) ?_
  refine ksa_sub (by k_asm) (by k_mem) hcint (by decide) (by omega) (by decide) ?_ (by with_unfolding_all rfl)
  intro t9
  (repeat' ((fail_if_success (with_reducible show wpAny _ _ (exec (Stmt.For _ _ _ _ _) _) _ _ _)); (fail_if_success (with_reducible show wpAny _ _ (eval (Expr.ListComp _ _ _ _) _) _ _ _)); (fail_if_success (with_reducible show wpAny _ _ (pyIter (Value.ref _)) _ _ _)); (fail_if_success (with_reducible show wpAny _ _ (subscriptTail _ _ (Value.ref _) (Value.int _ _)) _ _ _)); (fail_if_success (with_reducible show wpAny _ _ (subscriptTail _ _ (Value.ref _) (Value.ref _)) _ _ _)); (fail_if_success (with_reducible show wpAny _ _ (compareOp _ (Value.ref _) (Value.ref _)) _ _ _)); (fail_if_success (with_reducible show LCg.CompSrc _ _ _ _ _ _ _ _ _ _ _ _ _ _)); (fail_if_success (with_reducible show LCt.CompSrcT _ _ _ _ _ _ _ _ _ _ _ _ _ _ _)); (fail_if_success (with_reducible show wpAny _ _ (binaryOp _ (Value.ref _) (Value.ref _)) _ _ _)); (fail_if_success (with_reducible show LCg.FinE _ _ _ _ _ _ _)); (fail_if_success (with_reducible show Turned _ _ _ _ _ _ _ _)); (first | (k_unfold; (try dsimp only)) | (((with_reducible show wpAny _ _ (call (Value.ref 189) _) _ _ _); k_dflt (refine' free_claim _ _ _ _ _ _ _ _ _ _ _ _ _ _ _ _ _ _ _ _ _ _ _ _ _ _ _ _ _ _ _ _ _ _ _ ?sB ?sF ?sX ?sN ?sT ?sK ?sf ?s1 ?s2 ?s3 ?s4 ?s5 ?s6 ?sfat ?sk ?slen ?sch ?sc0 ?scl ?sff ?sgb ?sd ?su ?_; (case sB | sF | sX | sN | sT => k_asm); (case sK | sf => exact rfl); (case s1 | s2 | s3 | s4 | s5 | s6 | sfat | sk => assumption); (case slen => omega); (case sch => exact lies_of (by assumption) (by assumption)); (case sc0 => exact rfl); (case scl | sff => omega); (case sgb => assumption); (case sd | su => omega); k_whole); intro _ _ _ _ _ _ _ _ _ _ _ _; (try k_sweep); (try k_fold))) | walk1 | (dsimp only; walk1) | ((dsimp only [List.nil_append, List.cons_append]); walk1) | (leave1; (try dsimp only)) | fail "no step")))
  all_goals first | exact Str.ofString "" | exact Value.none | exact (0 : Nat) | skip
  rename IntsAre _ (freed _ _) => hI9
  rename (_ < _ ∧ _ < _ ∧ _ < _ ∧ ∀ (q : Addr × Obj), q ∈ rest → q.fst < _) => lt9
  rename AllBare _ => hb9
  refine' kmk_slice_lit (its := rs.toArray) (zs := rs.take i) ?y1 ?y2 ?y3 ?y4 ?y5 ?y6 ?_ ?y8 ?y9 ?y10
  case y1 => k_asm
  case y2 => k_asm
  case y3 => kmk_list
  case y4 => exact IsPart.none
  case y5 => exact IsPart.int _ _
  case y6 => rw [hti, slicePick_upto']
  case y8 => with_unfolding_all rfl
  case y9 => kmk_pure
  case y10 => rw [sizeLine_eq, List.size_toArray]; omega
  intro D2 h2 F2 N2 l2
  (try k_lt l2); (try k_sweep)
  (repeat' ((fail_if_success (with_reducible show wpAny _ _ (exec (Stmt.For _ _ _ _ _) _) _ _ _)); (fail_if_success (with_reducible show wpAny _ _ (eval (Expr.ListComp _ _ _ _) _) _ _ _)); (fail_if_success (with_reducible show wpAny _ _ (pyIter (Value.ref _)) _ _ _)); (fail_if_success (with_reducible show wpAny _ _ (subscriptTail _ _ (Value.ref _) (Value.int _ _)) _ _ _)); (fail_if_success (with_reducible show wpAny _ _ (subscriptTail _ _ (Value.ref _) (Value.ref _)) _ _ _)); (fail_if_success (with_reducible show wpAny _ _ (compareOp _ (Value.ref _) (Value.ref _)) _ _ _)); (fail_if_success (with_reducible show LCg.CompSrc _ _ _ _ _ _ _ _ _ _ _ _ _ _)); (fail_if_success (with_reducible show LCt.CompSrcT _ _ _ _ _ _ _ _ _ _ _ _ _ _ _)); (fail_if_success (with_reducible show wpAny _ _ (binaryOp _ (Value.ref _) (Value.ref _)) _ _ _)); (fail_if_success (with_reducible show LCg.FinE _ _ _ _ _ _ _)); (fail_if_success (with_reducible show Turned _ _ _ _ _ _ _ _)); (first | (k_unfold; (try dsimp only)) | (((with_reducible show wpAny _ _ (call (Value.ref 189) _) _ _ _); k_dflt (refine' free_claim _ _ _ _ _ _ _ _ _ _ _ _ _ _ _ _ _ _ _ _ _ _ _ _ _ _ _ _ _ _ _ _ _ _ _ ?sB ?sF ?sX ?sN ?sT ?sK ?sf ?s1 ?s2 ?s3 ?s4 ?s5 ?s6 ?sfat ?sk ?slen ?sch ?sc0 ?scl ?sff ?sgb ?sd ?su ?_; (case sB | sF | sX | sN | sT => k_asm); (case sK | sf => exact rfl); (case s1 | s2 | s3 | s4 | s5 | s6 | sfat | sk => assumption); (case slen => omega); (case sch => exact lies_of (by assumption) (by assumption)); (case sc0 => exact rfl); (case scl | sff => omega); (case sgb => assumption); (case sd | su => omega); k_whole); intro _ _ _ _ _ _ _ _ _ _ _ _; (try k_sweep); (try k_fold))) | walk1 | (dsimp only; walk1) | ((dsimp only [List.nil_append, List.cons_append]); walk1) | (leave1; (try dsimp only)) | fail "no step")))
  all_goals first | exact Str.ofString "" | exact Value.none | exact (0 : Nat) | skip
  refine' kmk_slice_lit (its := rs.toArray) (zs := rs.drop (i + 1)) ?w1 ?w2 ?w3 ?w4 ?w5 ?w6 ?_ ?w8 ?w9 ?w10
  case w1 => k_asm
  case w2 => k_asm
  case w3 => kmk_list
  case w4 => exact IsPart.int _ _
  case w5 => exact IsPart.none
  case w6 => rw [show take ns (21 + 2 * (0 + (turn : Int))) (chains.length : Int) + 1 = ((i + 1 : Nat) : Int) by omega, slicePick_from']
  case w8 => with_unfolding_all rfl
  case w9 => kmk_pure
  case w10 => rw [sizeLine_eq, List.size_toArray]; omega
  intro D3 h3 F3 N3 l3
  (try k_lt l3); (try k_sweep)
  (repeat' ((fail_if_success (with_reducible show wpAny _ _ (exec (Stmt.For _ _ _ _ _) _) _ _ _)); (fail_if_success (with_reducible show wpAny _ _ (eval (Expr.ListComp _ _ _ _) _) _ _ _)); (fail_if_success (with_reducible show wpAny _ _ (pyIter (Value.ref _)) _ _ _)); (fail_if_success (with_reducible show wpAny _ _ (subscriptTail _ _ (Value.ref _) (Value.int _ _)) _ _ _)); (fail_if_success (with_reducible show wpAny _ _ (subscriptTail _ _ (Value.ref _) (Value.ref _)) _ _ _)); (fail_if_success (with_reducible show wpAny _ _ (compareOp _ (Value.ref _) (Value.ref _)) _ _ _)); (fail_if_success (with_reducible show LCg.CompSrc _ _ _ _ _ _ _ _ _ _ _ _ _ _)); (fail_if_success (with_reducible show LCt.CompSrcT _ _ _ _ _ _ _ _ _ _ _ _ _ _ _)); (fail_if_success (with_reducible show wpAny _ _ (binaryOp _ (Value.ref _) (Value.ref _)) _ _ _)); (fail_if_success (with_reducible show LCg.FinE _ _ _ _ _ _ _)); (fail_if_success (with_reducible show Turned _ _ _ _ _ _ _ _)); (first | (k_unfold; (try dsimp only)) | (((with_reducible show wpAny _ _ (call (Value.ref 189) _) _ _ _); k_dflt (refine' free_claim _ _ _ _ _ _ _ _ _ _ _ _ _ _ _ _ _ _ _ _ _ _ _ _ _ _ _ _ _ _ _ _ _ _ _ ?sB ?sF ?sX ?sN ?sT ?sK ?sf ?s1 ?s2 ?s3 ?s4 ?s5 ?s6 ?sfat ?sk ?slen ?sch ?sc0 ?scl ?sff ?sgb ?sd ?su ?_; (case sB | sF | sX | sN | sT => k_asm); (case sK | sf => exact rfl); (case s1 | s2 | s3 | s4 | s5 | s6 | sfat | sk => assumption); (case slen => omega); (case sch => exact lies_of (by assumption) (by assumption)); (case sc0 => exact rfl); (case scl | sff => omega); (case sgb => assumption); (case sd | su => omega); k_whole); intro _ _ _ _ _ _ _ _ _ _ _ _; (try k_sweep); (try k_fold))) | walk1 | (dsimp only; walk1) | ((dsimp only [List.nil_append, List.cons_append]); walk1) | (leave1; (try dsimp only)) | fail "no step")))
  all_goals first | exact Str.ofString "" | exact Value.none | exact (0 : Nat) | skip
  refine kmk_add_lit (its := (rs.take i).toArray) (its2 := (rs.drop (i + 1)).toArray) (zs := rs.take i ++ rs.drop (i + 1)) (by k_asm) (by k_asm) (by kmk_list) (by kmk_list) rfl ?_ ?z1
  case z1 => rw [sizeLine_eq]; simp only [List.length_take, List.length_drop]; omega
  intro D4 h4 F4 N4 l4
  have l5 := l4
  (try k_lt l4); (try k_sweep)
  (repeat' ((fail_if_success (with_reducible show wpAny _ _ (exec (Stmt.For _ _ _ _ _) _) _ _ _)); (fail_if_success (with_reducible show wpAny _ _ (eval (Expr.ListComp _ _ _ _) _) _ _ _)); (fail_if_success (with_reducible show wpAny _ _ (pyIter (Value.ref _)) _ _ _)); (fail_if_success (with_reducible show wpAny _ _ (subscriptTail _ _ (Value.ref _) (Value.int _ _)) _ _ _)); (fail_if_success (with_reducible show wpAny _ _ (subscriptTail _ _ (Value.ref _) (Value.ref _)) _ _ _)); (fail_if_success (with_reducible show wpAny _ _ (compareOp _ (Value.ref _) (Value.ref _)) _ _ _)); (fail_if_success (with_reducible show LCg.CompSrc _ _ _ _ _ _ _ _ _ _ _ _ _ _)); (fail_if_success (with_reducible show LCt.CompSrcT _ _ _ _ _ _ _ _ _ _ _ _ _ _ _)); (fail_if_success (with_reducible show wpAny _ _ (binaryOp _ (Value.ref _) (Value.ref _)) _ _ _)); (fail_if_success (with_reducible show LCg.FinE _ _ _ _ _ _ _)); (fail_if_success (with_reducible show Turned _ _ _ _ _ _ _ _)); (first | (k_unfold; (try dsimp only)) | (((with_reducible show wpAny _ _ (call (Value.ref 189) _) _ _ _); k_dflt (refine' free_claim _ _ _ _ _ _ _ _ _ _ _ _ _ _ _ _ _ _ _ _ _ _ _ _ _ _ _ _ _ _ _ _ _ _ _ ?sB ?sF ?sX ?sN ?sT ?sK ?sf ?s1 ?s2 ?s3 ?s4 ?s5 ?s6 ?sfat ?sk ?slen ?sch ?sc0 ?scl ?sff ?sgb ?sd ?su ?_; (case sB | sF | sX | sN | sT => k_asm); (case sK | sf => exact rfl); (case s1 | s2 | s3 | s4 | s5 | s6 | sfat | sk => assumption); (case slen => omega); (case sch => exact lies_of (by assumption) (by assumption)); (case sc0 => exact rfl); (case scl | sff => omega); (case sgb => assumption); (case sd | su => omega); k_whole); intro _ _ _ _ _ _ _ _ _ _ _ _; (try k_sweep); (try k_fold))) | walk1 | (dsimp only; walk1) | ((dsimp only [List.nil_append, List.cons_append]); walk1) | (leave1; (try dsimp only)) | fail "no step")))
  all_goals first | exact Str.ofString "" | exact Value.none | exact (0 : Nat) | skip
  rename Fr _ _ _ _ => F9
  rename News _ _ _ _ => N9
  rw [free_table W hci] at hI9
  refine hq i _ _ _ D4 (rs.take i ++ rs.drop (i + 1)) _ _ _ _ _ _ hb9 hil hI9 (ff_free W hci hFF) ((hch.take i).append (hch.drop (i + 1))) ?e1 l4.2.2.1 (by rfl) ?e2 F9 (pick5 N9)
  case e1 =>
    intro p hp
    rcases List.mem_cons.mp hp with rfl | hp
    · exact lt9.1
    rcases List.mem_cons.mp hp with rfl | hp
    · exact lt9.2.1
    exact lt9.2.2.2 p hp
  case e2 =>
    intro y h1 h2
    simp only [h1, h2, if_false]
end
section
theorem rst_T6 : True := by w_top off; trivial
open LCg LCt
set_option linter.all false in
theorem turnW (w : World) (mean : ExcName → Option Value) (mg mb : Str → Option Value) (l L a : Addr) (vs : List Value) (ns : List Int) (dp un : Nat) (gd : Option (List Code)) (cd : Value) (A₀ : Around) (h₀ : Heap) (m : Str → Option Value) (s : Shared) (news : List (Addr × Obj)) (size : Int) (t2 tt : Tok) (turn : Nat) (oS oF : Obj) (lr : Addr) (nr : Nat) (fs : List Value) (free : List Int) (Q : Flow → Shared → Prop)
    (B : Below A₀ h₀ [] h₀) (F : Fr h₀ L s.heap m) (X : (Mine.hd.heap_1 w.params).In h₀) (N : News h₀ L s.heap news)
    (T : Top Mine.hd.view_39 (looseW Mine.hd.view_39 [Str.ofString "PyFATException", Str.ofString "errno", Str.ofString "PyFat"]) mean mg mb h₀)
    (mz : m (Str.ofString "size") = some (.int size t2)) (mt : m (Str.ofString "turn") = some (.int (0 + (turn : Int)) tt))
    (mS : (L + 1, oS) ∈ news) (dS : oS.data = .cell (some (.ref l))) (mF : (L + 1 + 1 + 1 + 1, oF) ∈ news) (dF : oF.data = .cell (some (.ref lr))) (mr : (lr, listOf fs.toArray nr) ∈ news) (hfs : IntsAre fs free)
    (hl : h₀.IsList l vs.toArray) (hi : IntsAre vs ns) (hn : ns.length ≤ 63) (hsz : 1 ≤ size ∧ size ≤ 40) (hfn : free.length ≤ 42) (htn : turn < 12)
    (hdp : dp + 20 < recursionLimit) (hun : un + 200 < cLine)
    (hq : ∀ ta tb h' tk', Fr h₀ L h' (fun y => if y = Str.ofString "due" then some (.int (numOf (take ns (21 + 2 * (0 + (turn : Int))) (size * ((free.length : Int) + 2))) size) tb) else if y = Str.ofString "wanted" then some (.int (take ns (21 + 2 * (0 + (turn : Int))) (size * ((free.length : Int) + 2))) ta) else m y) →
      News h₀ L h' news → 0 ≤ take ns (21 + 2 * (0 + (turn : Int))) (size * ((free.length : Int) + 2)) → take ns (21 + 2 * (0 + (turn : Int))) (size * ((free.length : Int) + 2)) ≤ 4000 → Q .next { s with heap := h', toks := tk' }) :
    wpAny (model PySem.Challenge.rw_jr0029_01.row.prog w) (arTop dp un gd (envOfC (Str.ofString "law") lsc L a cd) []) (execs (giveB.take 2) (envOfC (Str.ofString "law") lsc L a cd)) Q (fun _ _ => False) s := by
  delta giveB turnB lbody lawPart
  dsimp only [List.take, List.drop]
  have hfl := hfs.length
  have hp1 : size * ((free.length : Int) + 2) ≤ 40 * 44 := Int.mul_le_mul hsz.2 (by omega) (by omega) (by omega)
  have hp0 : 0 < size * ((free.length : Int) + 2) := Int.mul_pos (by omega) (by omega)
  (repeat' ((fail_if_success (with_reducible show wpAny _ _ (exec (Stmt.For _ _ _ _ _) _) _ _ _)); (fail_if_success (with_reducible show wpAny _ _ (eval (Expr.ListComp _ _ _ _) _) _ _ _)); (fail_if_success (with_reducible show wpAny _ _ (pyIter (Value.ref _)) _ _ _)); (fail_if_success (with_reducible show wpAny _ _ (subscriptTail _ _ (Value.ref _) (Value.int _ _)) _ _ _)); (fail_if_success (with_reducible show wpAny _ _ (subscriptTail _ _ (Value.ref _) (Value.ref _)) _ _ _)); (fail_if_success (with_reducible show wpAny _ _ (compareOp _ (Value.ref _) (Value.ref _)) _ _ _)); (fail_if_success (with_reducible show LCg.CompSrc _ _ _ _ _ _ _ _ _ _ _ _ _ _)); (fail_if_success (with_reducible show LCt.CompSrcT _ _ _ _ _ _ _ _ _ _ _ _ _ _ _)); (fail_if_success (with_reducible show wpAny _ _ (binaryOp _ (Value.ref _) (Value.ref _)) _ _ _)); (fail_if_success (with_reducible show LCg.FinE _ _ _ _ _ _ _)); (fail_if_success (with_reducible show Turned _ _ _ _ _ _ _ _)); (first | (k_unfold; (try dsimp only)) | walk1 | (dsimp only; walk1) | ((dsimp only [List.nil_append, List.cons_append]); walk1) | (leave1; (try dsimp only)) | fail "no step")))
  all_goals first | exact Str.ofString "" | exact Value.none | exact (0 : Nat) | skip
  rename Fr _ _ _ _ => F9
  rename News _ _ _ _ => N9
  have hb := take_bounds ns (21 + 2 * (0 + (turn : Int))) (size * ((free.length : Int) + 2)) hp0
  rw [due_eq hsz.1] at F9
  exact hq _ _ _ _ F9 N9 hb.1 (by omega)
end
section
theorem rst_T7 : True := by w_top off; trivial
open LCg LCt
/-- the two branches of a wish for space -/
noncomputable def noB : List Stmt := match giveB.drop 2 with | (.If _ b _ _) :: _ => b | _ => []
noncomputable def toldB : List Stmt := match giveB.drop 2 with | (.If _ _ b _) :: _ => b | _ => []
set_option linter.all false in
theorem turnNo (w : World) (mean : ExcName → Option Value) (mg mb : Str → Option Value) (L a : Addr) (dp un : Nat) (gd : Option (List Code)) (cd : Value) (A₀ : Around) (h₀ : Heap) (m : Str → Option Value) (s : Shared) (rest : List (Addr × Obj)) (V dV lf : Addr) (nd nf : Nat) (k : Nat → Tok) (v : Nat → Value) (bpc ffc kind wanted : Int) (t1 t2 t3 tw : Tok) (fat : List Int) (fvs : List Value) (Q : Flow → Shared → Prop)
    (B : Below A₀ h₀ [] h₀) (F : Fr h₀ L s.heap m) (X : (Mine.hd.heap_1 w.params).In h₀) (N : News h₀ L s.heap ((V, instObj 316 dV) :: (dV, dictOf (volEs w.params k v (.int bpc t1) (.int ffc t2) (.int kind t3) (.ref lf) (.bool true) (.bool false)) nd) :: (lf, listOf fvs.toArray nf) :: rest))
    (T : Top Mine.hd.view_39 (looseW Mine.hd.view_39 [Str.ofString "PyFATException", Str.ofString "errno", Str.ofString "PyFat"]) mean mg mb h₀)
    (hV : @Ne Nat V dV ∧ @Ne Nat V lf ∧ @Ne Nat dV lf) (hr1 : ∀ p ∈ rest, p.1 ≠ V) (hr2 : ∀ p ∈ rest, p.1 ≠ dV) (hr3 : ∀ p ∈ rest, p.1 ≠ lf)
    (mv : m (Str.ofString "volume") = some (.ref V)) (mw : m (Str.ofString "wanted") = some (.int wanted tw))
    (hfat : IntsAre fvs fat) (hk : Kind kind) (hlen : 3 ≤ fat.length ∧ fat.length ≤ 60) (hffc : 0 ≤ ffc ∧ ffc < fat.length) (hbpc : 1 ≤ bpc ∧ bpc ≤ 40) (hwt : 0 ≤ wanted ∧ wanted ≤ 4000) (hgb : AllBare s.gens)
    (hlack : ((scan fat ffc.toNat fat.length).length : Int) < numOf wanted bpc)
    (hdp : dp + 20 < recursionLimit) (hun : un + 200 < cLine)
    (hq : ∀ h' tk' gens', AllBare gens' → Fr h₀ L h' m → News h₀ L h' ((V, instObj 316 dV) :: (dV, dictOf (volEs w.params k v (.int bpc t1) (.int ffc t2) (.int kind t3) (.ref lf) (.bool true) (.bool false)) nd) :: (lf, listOf fvs.toArray nf) :: rest) → Q .next { s with heap := h', toks := tk', gens := gens' }) :
    wpAny (model PySem.Challenge.rw_jr0029_01.row.prog w) (arTop dp un gd (envOfC (Str.ofString "law") lsc L a cd) []) (execs noB (envOfC (Str.ofString "law") lsc L a cd)) Q (fun _ _ => False) s := by
  delta noB giveB turnB lbody lawPart
  dsimp only [List.take, List.drop]
  (repeat' ((fail_if_success (with_reducible show wpAny _ _ (call (Value.ref 362) _) _ _ _)); (fail_if_success (with_reducible show wpAny _ _ (call (Value.ref 369) _) _ _ _)); (fail_if_success (with_reducible show wpAny _ _ (exec (Stmt.For _ _ _ _ _) _) _ _ _)); (fail_if_success (with_reducible show wpAny _ _ (eval (Expr.ListComp _ _ _ _) _) _ _ _)); (fail_if_success (with_reducible show wpAny _ _ (pyIter (Value.ref _)) _ _ _)); (fail_if_success (with_reducible show wpAny _ _ (subscriptTail _ _ (Value.ref _) (Value.int _ _)) _ _ _)); (fail_if_success (with_reducible show wpAny _ _ (subscriptTail _ _ (Value.ref _) (Value.ref _)) _ _ _)); (fail_if_success (with_reducible show wpAny _ _ (compareOp _ (Value.ref _) (Value.ref _)) _ _ _)); (fail_if_success (with_reducible show LCg.CompSrc _ _ _ _ _ _ _ _ _ _ _ _ _ _)); (fail_if_success (with_reducible show LCt.CompSrcT _ _ _ _ _ _ _ _ _ _ _ _ _ _ _)); (fail_if_success (with_reducible show wpAny _ _ (binaryOp _ (Value.ref _) (Value.ref _)) _ _ _)); (fail_if_success (with_reducible show LCg.FinE _ _ _ _ _ _ _)); (fail_if_success (with_reducible show Turned _ _ _ _ _ _ _ _)); (first | (k_unfold; (try dsimp only)) | walk1 | (dsimp only; walk1) | ((dsimp only [List.nil_append, List.cons_append]); walk1) | (leave1; (try dsimp only)) | fail "no step")))
  all_goals first | exact Str.ofString "" | exact Value.none | exact (0 : Nat) | skip
  refine refused_claim w mean mg mb _ ((V, instObj 316 dV) :: (dV, dictOf (volEs w.params k v (.int bpc t1) (.int ffc t2) (.int kind t3) (.ref lf) (.bool true) (.bool false)) nd) :: (lf, listOf fvs.toArray nf) :: rest) V dV nd k v _ _ _ _ _ _ _ _ (fun t => .int 28 t) dp un gd _ A₀ h₀ h₀ L _ _ _ _ B (by k_asm) X (by k_asm) T rfl rfl (by k_mem) (by k_mem) (by omega) (by omega) ?hcall ?hho ?heq ?hret
  case hcall =>
    intro env1 h1 L1 m1 s1 tw1 Q1 E1 B1 F1 X1 N1 T1 hcs hfr hg hraise
    refine alloc_nospace w mean mg mb rest V dV lf nd nf k v bpc ffc kind wanted t1 t2 t3 tw fat fvs _ _ _ _ _ _ _ _ _ _ _ _ _ B1 F1 X1 N1 T1 hcs hfr hV hr1 hr2 hr3 hfat hk hlen hffc hbpc hwt (by omega) (by omega) hlack ?_
    intro g e h' tk' t FG fl
    exact hraise g e h' tk' _ t (by rw [hg]; exact hgb) FG fl
  case hho => exact fun t => rfl
  case heq =>
    intro t A Q E s h
    refine eq_int ?_
    exact h
  case hret =>
    intro h' tk' gens' hb' F' N'
    (repeat' ((fail_if_success (with_reducible show wpAny _ _ (exec (Stmt.For _ _ _ _ _) _) _ _ _)); (fail_if_success (with_reducible show wpAny _ _ (eval (Expr.ListComp _ _ _ _) _) _ _ _)); (fail_if_success (with_reducible show wpAny _ _ (pyIter (Value.ref _)) _ _ _)); (fail_if_success (with_reducible show wpAny _ _ (subscriptTail _ _ (Value.ref _) (Value.int _ _)) _ _ _)); (fail_if_success (with_reducible show wpAny _ _ (subscriptTail _ _ (Value.ref _) (Value.ref _)) _ _ _)); (fail_if_success (with_reducible show wpAny _ _ (compareOp _ (Value.ref _) (Value.ref _)) _ _ _)); (fail_if_success (with_reducible show LCg.CompSrc _ _ _ _ _ _ _ _ _ _ _ _ _ _)); (fail_if_success (with_reducible show LCt.CompSrcT _ _ _ _ _ _ _ _ _ _ _ _ _ _ _)); (fail_if_success (with_reducible show wpAny _ _ (binaryOp _ (Value.ref _) (Value.ref _)) _ _ _)); (fail_if_success (with_reducible show LCg.FinE _ _ _ _ _ _ _)); (fail_if_success (with_reducible show Turned _ _ _ _ _ _ _ _)); (first | (k_unfold; (try dsimp only)) | walk1 | (dsimp only; walk1) | ((dsimp only [List.nil_append, List.cons_append]); walk1) | (leave1; (try dsimp only)) | fail "no step")))
    exact hq _ _ _ hb' F' N'
end
section
theorem rst_T8 : True := by w_top off; trivial
local macro_rules | `(tactic| walk_at "call builtin:len") => `(tactic| ((with_reducible show wpAny _ _ (call (Value.builtin "len") [Value.ref _]) _ _ _); k_here; k_dflt (refine' kse_len ?N ?U ?h ?f ?_; (case h => with_reducible assumption); (case N => k_asm); (case U => (refine' UpdF.head ?a; (case a => with_reducible assumption))); (case f => with_reducible assumption); k_whole)))
local macro_rules | `(tactic| walk_at "call builtin:len") => `(tactic| (k_here; (with_reducible show wpAny _ _ (call (Value.builtin "len") [Value.ref _]) _ _ _); k_dflt (refine' kst_len ?k1 ?k2 ?k3 ?k4 ?_; (case k1 => k_asm); (case k2 => k_mem); (case k3 => first | with_reducible assumption | exact IntsAre.length (by with_reducible assumption)); (case k4 => with_reducible assumption); k_whole)))
open LCg LCt
theorem nodup_of {us : List Value} {fat : List Int} {a p : Nat} (_ : IntsAre us (scan fat a p)) : (scan fat a p).Nodup := scan_nodup _ _ _
theorem fit_of {us : List Value} {fat : List Int} {a p n : Nat} (_ : IntsAre us (scan fat a p)) (h : p < n) (h2 : n ≤ 60) : ((scan fat a p).length : Int) < 2 ^ 63 := by have := scan_length_le fat a p; omega
theorem bound_of {us : List Value} {fat : List Int} {a p n : Nat} (_ : IntsAre us (scan fat a p)) (h : p < n) (h2 : n ≤ 60) : (scan fat a p).length + 1 < scanBound := by have := scan_length_le fat a p; unfold scanBound; omega
theorem idx_of {us : List Value} {zs : List Int} {i : Nat} {v : Value} (h : IntsAre us zs) (hv : us.toArray[i]? = some v) : i < zs.length := by
  have := (List.getElem?_eq_some_iff.mp (show us[i]? = some v by simpa using hv)).1
  rw [← h.length]; exact this
theorem told_free {us : List Value} {fat : List Int} {ff p n : Nat} (_ : IntsAre us (scan fat ff p)) (h : p < n) (hF : FF fat (ff : Int)) : ∀ z ∈ scan fat ff p, (scan fat 2 n).any (· == z) = true := by
  intro z hz
  rw [scan_ff (fun q h2 hq => hF.2.2 q h2 (by omega))] at hz
  exact List.any_eq_true.mpr ⟨z, scan_mono (Nat.le_of_lt h) hz, by simp⟩
theorem len_of {us : List Value} {fat : List Int} {a p : Nat} (_ : IntsAre us (scan fat a p)) : (scan fat a p).length ≤ p := scan_length_le _ _ _
theorem drop1 {h₀ h : Heap} {L : Addr} {a : Addr × Obj} {news : List (Addr × Obj)} (N : News h₀ L h (a :: news)) : News h₀ L h news := fun p hp => N p (.tail _ hp)
local macro_rules | `(tactic| walk_at "compareOp NotEq int int") => `(tactic| (k_here; refine ne_same (by with_reducible assumption) ?_))
set_option linter.all false in
theorem turnTold1 (w : World) (mean : ExcName → Option Value) (mg mb : Str → Option Value) (L a : Addr) (dp un : Nat) (gd : Option (List Code)) (cd : Value) (A₀ : Around) (h₀ : Heap) (m : Str → Option Value) (s : Shared) (rest : List (Addr × Obj)) (V dV lf lc : Addr) (nd nf nc : Nat) (k : Nat → Tok) (v : Nat → Value) (bpc kind wanted : Int) (ff : Nat) (t1 t2 t3 tw td : Tok) (bs : List Bool) (chains : List (List Int)) (rs : List Value) (fvs : List Value) (Q : Flow → Shared → Prop)
    (B : Below A₀ h₀ [] h₀) (F : Fr h₀ L s.heap m) (X : (Mine.hd.heap_1 w.params).In h₀) (N : News h₀ L s.heap ((V, instObj 316 dV) :: (dV, dictOf (volEs w.params k v (.int bpc t1) (.int (ff : Int) t2) (.int kind t3) (.ref lf) (.bool true) (.bool false)) nd) :: (lf, listOf fvs.toArray nf) :: (lc, listOf rs.toArray nc) :: rest))
    (T : Top Mine.hd.view_39 (looseW Mine.hd.view_39 [Str.ofString "PyFATException", Str.ofString "errno", Str.ofString "PyFat"]) mean mg mb h₀)
    (hV : @Ne Nat V dV ∧ @Ne Nat V lf ∧ @Ne Nat dV lf) (hr1 : ∀ p ∈ (lc, listOf rs.toArray nc) :: rest, p.1 ≠ V) (hr2 : ∀ p ∈ (lc, listOf rs.toArray nc) :: rest, p.1 ≠ dV) (hr3 : ∀ p ∈ (lc, listOf rs.toArray nc) :: rest, p.1 ≠ lf)
    (mv : m (Str.ofString "volume") = some (.ref V)) (mw : m (Str.ofString "wanted") = some (.int wanted tw)) (md : m (Str.ofString "due") = some (.int (numOf wanted bpc) td))
    (hfat : IntsAre fvs (tableOf kind bs chains)) (hk : Kind kind) (W : WF bs chains) (hFF : FF (tableOf kind bs chains) (ff : Int)) (hbl : 4 ≤ bs.length ∧ bs.length ≤ 40) (hb1 : bs.getD (bs.length - 1) true = true) (hcn : chains.length ≤ 40) (hbpc : 1 ≤ bpc ∧ bpc ≤ 40) (hwt : 0 ≤ wanted ∧ wanted ≤ 4000)
    (hfree : numOf wanted bpc ≤ ((scan (tableOf kind bs chains) ff (bs.length + 2)).length : Int))
    (hdp : dp + 20 < recursionLimit) (hun : un + 200 < cLine)
    (hq : ∀ r us n p fvs' nf' t' h' tk', IntsAre us (scan (tableOf kind bs chains) ff p) → p < (tableOf kind bs chains).length → IntsAre fvs' (putChain (ends kind) (tableOf kind bs chains) (scan (tableOf kind bs chains) ff p)) →
      (@LT.lt Nat _ V r ∧ @LT.lt Nat _ dV r ∧ @LT.lt Nat _ lf r ∧ ∀ q ∈ (lc, listOf rs.toArray nc) :: rest, q.1 < r) → Fr h₀ L h' (fun y => if y = Str.ofString "told" then some (.ref r) else m y) →
      News h₀ L h' ((r, listOf (List.toArray us) n) :: (V, instObj 316 dV) :: (dV, dictOf (volEs w.params k v (.int bpc t1) (.int ((p : Nat) : Int) t') (.int kind t3) (.ref lf) (.bool true) (.bool false)) nd) :: (lf, listOf (List.toArray fvs') nf') :: (lc, listOf rs.toArray nc) :: rest) → Q .next { s with heap := h', toks := tk' }) :
    wpAny (model PySem.Challenge.rw_jr0029_01.row.prog w) (arTop dp un gd (envOfC (Str.ofString "law") lsc L a cd) []) (execs (toldB.take 2) (envOfC (Str.ofString "law") lsc L a cd)) Q (fun _ _ => False) s := by
  delta toldB giveB turnB lbody lawPart
  dsimp only [List.take, List.drop]
  have hfl : (tableOf kind bs chains).length = bs.length + 2 := tableOf_length ..
  have hlast := tab_last (kind := kind) hk W (by omega) hb1
  have hlen : 3 ≤ (tableOf kind bs chains).length ∧ (tableOf kind bs chains).length ≤ 60 := by omega
  have hffc : 0 ≤ ((ff : Nat) : Int) ∧ ((ff : Nat) : Int) < (tableOf kind bs chains).length := ⟨hFF.1, hFF.2.1⟩
  have hfr9 : numOf wanted bpc ≤ ((scan (tableOf kind bs chains) ((ff : Int)).toNat (tableOf kind bs chains).length).length : Int) := by rw [hfl]; exact hfree
  (repeat' ((fail_if_success (with_reducible show wpAny _ _ (call (Value.builtin "len") _) _ _ _)); (fail_if_success (with_reducible show wpAny _ _ (exec (Stmt.For _ _ _ _ _) _) _ _ _)); (fail_if_success (with_reducible show wpAny _ _ (eval (Expr.ListComp _ _ _ _) _) _ _ _)); (fail_if_success (with_reducible show wpAny _ _ (pyIter (Value.ref _)) _ _ _)); (fail_if_success (with_reducible show wpAny _ _ (subscriptTail _ _ (Value.ref _) (Value.int _ _)) _ _ _)); (fail_if_success (with_reducible show wpAny _ _ (subscriptTail _ _ (Value.ref _) (Value.ref _)) _ _ _)); (fail_if_success (with_reducible show wpAny _ _ (compareOp _ (Value.ref _) (Value.ref _)) _ _ _)); (fail_if_success (with_reducible show LCg.CompSrc _ _ _ _ _ _ _ _ _ _ _ _ _ _)); (fail_if_success (with_reducible show LCt.CompSrcT _ _ _ _ _ _ _ _ _ _ _ _ _ _ _)); (fail_if_success (with_reducible show wpAny _ _ (binaryOp _ (Value.ref _) (Value.ref _)) _ _ _)); (fail_if_success (with_reducible show LCg.FinE _ _ _ _ _ _ _)); (fail_if_success (with_reducible show Turned _ _ _ _ _ _ _ _)); (first | (k_unfold; (try dsimp only)) | (((with_reducible show wpAny _ _ (call (Value.type "set") [Value.ref _]) _ _ _); k_here; k_dflt (refine' set_my ?sF ?sN ?shh ?shm ?shi ?shnd ?shb ?_; (case sF | sN => k_asm); (case shh => exact rfl); (case shm => k_mem); (case shi | shnd => assumption); (case shb => with_reducible assumption); k_whole); intro _ _ _ _ _ _ zlt9 _; (have zlt29 := ne_all zlt9); (try k_sweep); (try k_fold))) | (((with_reducible show wpAny _ _ (call (Value.ref 220) _) _ _ _); k_dflt (refine' alloc_claim _ _ _ _ _ _ _ _ _ _ _ _ _ _ _ _ _ _ _ _ _ _ _ _ _ _ _ _ _ _ _ _ _ _ ?sB ?sF ?sX ?sN ?sT ?sK ?sf ?s1 ?s2 ?s3 ?s4 ?sfat ?sk ?slen ?sff ?sbp ?swt ?sd ?su ?sfr ?sla ?_; (case sB | sF | sX | sN | sT => k_asm); (case sK | sf => exact rfl); (case s1 | s2 | s3 | s4 | sfat | sk | slen | sff | sbp | swt => assumption); (case sd | su => omega); (case sfr | sla => assumption); k_whole); intro _ _ _ _ _ _ _ _ _ _ _ _ _ _ _ _ _; (try k_sweep); (try k_fold))) | walk1 | (dsimp only; walk1) | ((dsimp only [List.nil_append, List.cons_append]); walk1) | (leave1; (try dsimp only)) | fail "no step")))
  all_goals first | exact Str.ofString "" | exact Value.none | exact (0 : Nat) | skip
  rename IntsAre _ (scan _ _ _) => hI9
  rename IntsAre _ (putChain _ _ _) => hJ9
  rename ((List.length (scan _ _ _) : Int) = numOf _ _) => hn9
  rename (_ < (tableOf kind bs chains).length) => hp9
  rename (_ ∧ _ ∧ _ ∧ ∀ (q : Addr × Obj), q ∈ (lc, _) :: rest → q.fst < _) => lt9
  simp only [Int.toNat_natCast] at hI9 hJ9 hn9
  have hul := hI9.length
  have hnd9 := nodup_of hI9
  have hsl := len_of hI9
  have h63 := fit_of hI9 hp9 hlen.2
  have h64 := bound_of hI9 hp9 hlen.2
  (repeat' ((fail_if_success (with_reducible show wpAny _ _ (exec (Stmt.For _ _ _ _ _) _) _ _ _)); (fail_if_success (with_reducible show wpAny _ _ (eval (Expr.ListComp _ _ _ _) _) _ _ _)); (fail_if_success (with_reducible show wpAny _ _ (pyIter (Value.ref _)) _ _ _)); (fail_if_success (with_reducible show wpAny _ _ (subscriptTail _ _ (Value.ref _) (Value.int _ _)) _ _ _)); (fail_if_success (with_reducible show wpAny _ _ (subscriptTail _ _ (Value.ref _) (Value.ref _)) _ _ _)); (fail_if_success (with_reducible show wpAny _ _ (compareOp _ (Value.ref _) (Value.ref _)) _ _ _)); (fail_if_success (with_reducible show LCg.CompSrc _ _ _ _ _ _ _ _ _ _ _ _ _ _)); (fail_if_success (with_reducible show LCt.CompSrcT _ _ _ _ _ _ _ _ _ _ _ _ _ _ _)); (fail_if_success (with_reducible show wpAny _ _ (binaryOp _ (Value.ref _) (Value.ref _)) _ _ _)); (fail_if_success (with_reducible show LCg.FinE _ _ _ _ _ _ _)); (fail_if_success (with_reducible show Turned _ _ _ _ _ _ _ _)); (first | (k_unfold; (try dsimp only)) | (((with_reducible show wpAny _ _ (call (Value.type "set") [Value.ref _]) _ _ _); k_here; k_dflt (refine' set_my ?sF ?sN ?shh ?shm ?shi ?shnd ?shb ?_; (case sF | sN => k_asm); (case shh => exact rfl); (case shm => k_mem); (case shi | shnd => assumption); (case shb => with_reducible assumption); k_whole); intro _ _ _ _ _ _ zlt9 _; (have zlt29 := ne_all zlt9); (try k_sweep); (try k_fold))) | (((with_reducible show wpAny _ _ (call (Value.ref 220) _) _ _ _); k_dflt (refine' alloc_claim _ _ _ _ _ _ _ _ _ _ _ _ _ _ _ _ _ _ _ _ _ _ _ _ _ _ _ _ _ _ _ _ _ _ ?sB ?sF ?sX ?sN ?sT ?sK ?sf ?s1 ?s2 ?s3 ?s4 ?sfat ?sk ?slen ?sff ?sbp ?swt ?sd ?su ?sfr ?sla ?_; (case sB | sF | sX | sN | sT => k_asm); (case sK | sf => exact rfl); (case s1 | s2 | s3 | s4 | sfat | sk | slen | sff | sbp | swt => assumption); (case sd | su => omega); (case sfr | sla => assumption); k_whole); intro _ _ _ _ _ _ _ _ _ _ _ _ _ _ _ _ _; (try k_sweep); (try k_fold))) | walk1 | (dsimp only; walk1) | ((dsimp only [List.nil_append, List.cons_append]); walk1) | (leave1; (try dsimp only)) | fail "no step")))
  all_goals first | exact Str.ofString "" | exact Value.none | exact (0 : Nat) | skip
  rename Fr _ _ _ _ => F9
  rename News _ _ _ _ => N9
  exact hq _ _ _ _ _ _ _ _ _ hI9 hp9 hJ9 lt9 F9 (drop1 N9)
end
section
theorem rst_T9 : True := by w_top off; trivial
open LCg LCt
local macro_rules | `(tactic| walk_at "compareOp NotIn int ref") => `(tactic| (k_here; k_dflt (refine' notin_list_ints ?l ?i ?_; (case l => kmk_list); (case i => with_reducible assumption))))
set_option linter.all false in
theorem turnTold2 (w : World) (mean : ExcName → Option Value) (mg mb : Str → Option Value) (L a : Addr) (dp un : Nat) (gd : Option (List Code)) (cd : Value) (A₀ : Around) (h₀ : Heap) (m : Str → Option Value) (s : Shared) (news : List (Addr × Obj)) (oF : Obj) (lr r : Addr) (nr n : Nat) (fs us : List Value) (free zs : List Int) (Q : Flow → Shared → Prop)
    (B : Below A₀ h₀ [] h₀) (F : Fr h₀ L s.heap m) (X : (Mine.hd.heap_1 w.params).In h₀) (N : News h₀ L s.heap news)
    (T : Top Mine.hd.view_39 (looseW Mine.hd.view_39 [Str.ofString "PyFATException", Str.ofString "errno", Str.ofString "PyFat"]) mean mg mb h₀)
    (mt : m (Str.ofString "told") = some (.ref r)) (mF : (L + 1 + 1 + 1 + 1, oF) ∈ news) (dF : oF.data = .cell (some (.ref lr))) (mr : (lr, listOf fs.toArray nr) ∈ news) (hfs : IntsAre fs free)
    (mrr : (r, listOf us.toArray n) ∈ news) (hI9 : IntsAre us zs) (hzl : zs.length ≤ 60) (hsub : ∀ z ∈ zs, free.any (· == z) = true)
    (hdp : dp + 20 < recursionLimit) (hun : un + 200 < cLine)
    (hq : ∀ h' tk', Fr h₀ L h' m → News h₀ L h' news → Q .next { s with heap := h', toks := tk' }) :
    wpAny (model PySem.Challenge.rw_jr0029_01.row.prog w) (arTop dp un gd (envOfC (Str.ofString "law") lsc L a cd) []) (execs ((toldB.take 3).drop 2) (envOfC (Str.ofString "law") lsc L a cd)) Q (fun _ _ => False) s := by
  delta toldB giveB turnB lbody lawPart
  dsimp only [List.take, List.drop]
  have hul := hI9.length
  (repeat' ((fail_if_success (with_reducible show wpAny _ _ (exec (Stmt.For _ _ _ _ _) _) _ _ _)); (fail_if_success (with_reducible show wpAny _ _ (eval (Expr.ListComp _ _ _ _) _) _ _ _)); (fail_if_success (with_reducible show wpAny _ _ (pyIter (Value.ref _)) _ _ _)); (fail_if_success (with_reducible show wpAny _ _ (subscriptTail _ _ (Value.ref _) (Value.int _ _)) _ _ _)); (fail_if_success (with_reducible show wpAny _ _ (subscriptTail _ _ (Value.ref _) (Value.ref _)) _ _ _)); (fail_if_success (with_reducible show wpAny _ _ (compareOp _ (Value.ref _) (Value.ref _)) _ _ _)); (fail_if_success (with_reducible show LCg.CompSrc _ _ _ _ _ _ _ _ _ _ _ _ _ _)); (fail_if_success (with_reducible show LCt.CompSrcT _ _ _ _ _ _ _ _ _ _ _ _ _ _ _)); (fail_if_success (with_reducible show wpAny _ _ (binaryOp _ (Value.ref _) (Value.ref _)) _ _ _)); (fail_if_success (with_reducible show LCg.FinE _ _ _ _ _ _ _)); (fail_if_success (with_reducible show Turned _ _ _ _ _ _ _ _)); (first | (k_unfold; (try dsimp only)) | walk1 | (dsimp only; walk1) | ((dsimp only [List.nil_append, List.cons_append]); walk1) | (leave1; (try dsimp only)) | fail "no step")))
  all_goals first | exact Str.ofString "" | exact Value.none | exact (0 : Nat) | skip
  refine LCt.ListComp_T (cl := [(Str.ofString "free", L + 1 + 1 + 1 + 1)]) (F₀ := by k_asm) (by kernel_rfl!) (by decide +kernel) (by rfl) (by decide +kernel) (by kernel_rfl!) ?_
  walk1
  all_goals first | exact Str.ofString "" | exact Value.none | exact (0 : Nat) | skip
  refine LCt.CompSrcT.ledger (by rfl) (by k_asm) (by k_asm) (by k_mem) (by rw [sizeLine_eq, List.size_toArray]; omega) ?_
  intro g
  (try dsimp only)
  refine comp_indT (fun i ys => ys = []) (.inr ⟨_, by k_mem, rfl, _, rfl⟩) ?_ ?_ rfl
  · rintro i v ys I oI C oC D m₂ h tk E' hi hv hg hC hx F3 N3
    obtain ⟨tz, rfl⟩ := IntsAre.int_at hI9 i v (by simpa using hv)
    have hi9 := idx_of hI9 hv
    have hz := hsub _ (getD_mem hi9)
    iterate 4 walk1
    rw [hz, Bool.not_true]
    walk1
    simp only [Bool.false_eq_true, if_false]
    exact Turned.mk (by k_asm) (by k_asm) hg
  · intro ys hg
    walk_at "FinE"
    subst hg
    (repeat' ((fail_if_success (with_reducible show wpAny _ _ (exec (Stmt.For _ _ _ _ _) _) _ _ _)); (fail_if_success (with_reducible show wpAny _ _ (eval (Expr.ListComp _ _ _ _) _) _ _ _)); (fail_if_success (with_reducible show wpAny _ _ (pyIter (Value.ref _)) _ _ _)); (fail_if_success (with_reducible show wpAny _ _ (subscriptTail _ _ (Value.ref _) (Value.int _ _)) _ _ _)); (fail_if_success (with_reducible show wpAny _ _ (subscriptTail _ _ (Value.ref _) (Value.ref _)) _ _ _)); (fail_if_success (with_reducible show wpAny _ _ (compareOp _ (Value.ref _) (Value.ref _)) _ _ _)); (fail_if_success (with_reducible show LCg.CompSrc _ _ _ _ _ _ _ _ _ _ _ _ _ _)); (fail_if_success (with_reducible show LCt.CompSrcT _ _ _ _ _ _ _ _ _ _ _ _ _ _ _)); (fail_if_success (with_reducible show wpAny _ _ (binaryOp _ (Value.ref _) (Value.ref _)) _ _ _)); (fail_if_success (with_reducible show LCg.FinE _ _ _ _ _ _ _)); (fail_if_success (with_reducible show Turned _ _ _ _ _ _ _ _)); (first | (k_unfold; (try dsimp only)) | walk1 | (dsimp only; walk1) | ((dsimp only [List.nil_append, List.cons_append]); walk1) | (leave1; (try dsimp only)) | fail "no step")))
    refine ne_intsK (vs := []) (us := []) (ms := []) (by kmk_list) .nil (by kmk_list) .nil (by first | ktr_room | (show un + 64 < cLine; omega) | (show un + 1 + 64 < cLine; omega)) ?_
    rw [decide_eq_true (rfl : ([] : List Int) = []), Bool.not_true]
    (repeat' ((fail_if_success (with_reducible show wpAny _ _ (exec (Stmt.For _ _ _ _ _) _) _ _ _)); (fail_if_success (with_reducible show wpAny _ _ (eval (Expr.ListComp _ _ _ _) _) _ _ _)); (fail_if_success (with_reducible show wpAny _ _ (pyIter (Value.ref _)) _ _ _)); (fail_if_success (with_reducible show wpAny _ _ (subscriptTail _ _ (Value.ref _) (Value.int _ _)) _ _ _)); (fail_if_success (with_reducible show wpAny _ _ (subscriptTail _ _ (Value.ref _) (Value.ref _)) _ _ _)); (fail_if_success (with_reducible show wpAny _ _ (compareOp _ (Value.ref _) (Value.ref _)) _ _ _)); (fail_if_success (with_reducible show LCg.CompSrc _ _ _ _ _ _ _ _ _ _ _ _ _ _)); (fail_if_success (with_reducible show LCt.CompSrcT _ _ _ _ _ _ _ _ _ _ _ _ _ _ _)); (fail_if_success (with_reducible show wpAny _ _ (binaryOp _ (Value.ref _) (Value.ref _)) _ _ _)); (fail_if_success (with_reducible show LCg.FinE _ _ _ _ _ _ _)); (fail_if_success (with_reducible show Turned _ _ _ _ _ _ _ _)); (first | (k_unfold; (try dsimp only)) | walk1 | (dsimp only; walk1) | ((dsimp only [List.nil_append, List.cons_append]); walk1) | (leave1; (try dsimp only)) | fail "no step")))
    rename Fr _ _ _ _ => F9
    rename News _ _ _ _ => N9
    exact hq _ _ F9 (drop1 (drop1 N9))
end
section
theorem rst_T10 : True := by w_top off; trivial
open LCg LCt
set_option linter.all false in
theorem turnTold3 (w : World) (mean : ExcName → Option Value) (mg mb : Str → Option Value) (L a : Addr) (dp un : Nat) (gd : Option (List Code)) (cd : Value) (A₀ : Around) (h₀ : Heap) (m : Str → Option Value) (s : Shared) (rest : List (Addr × Obj)) (r lc : Addr) (n nc : Nat) (us rs : List Value) (zs : List Int) (Q : Flow → Shared → Prop)
    (B : Below A₀ h₀ [] h₀) (F : Fr h₀ L s.heap m) (X : (Mine.hd.heap_1 w.params).In h₀) (N : News h₀ L s.heap ((lc, listOf rs.toArray nc) :: rest))
    (T : Top Mine.hd.view_39 (looseW Mine.hd.view_39 [Str.ofString "PyFATException", Str.ofString "errno", Str.ofString "PyFat"]) mean mg mb h₀)
    (mt : m (Str.ofString "told") = some (.ref r)) (mc : m (Str.ofString "chains") = some (.ref lc)) (mrr : (r, listOf us.toArray n) ∈ rest) (hI9 : IntsAre us zs) (hzl : zs.length ≤ 60) (hrl : rs.length ≤ 60) (hne : ∀ p ∈ rest, p.1 ≠ lc)
    (hdp : dp + 20 < recursionLimit) (hun : un + 200 < cLine)
    (hqA : zs = [] → ∀ h' tk', Fr h₀ L h' m → News h₀ L h' ((lc, listOf rs.toArray nc) :: rest) → Q .next { s with heap := h', toks := tk' })
    (hqB : zs ≠ [] → ∀ D nD nc' h' tk', @Ne Nat D lc → (∀ p ∈ rest, p.1 ≠ D) → Fr h₀ L h' m → News h₀ L h' ((D, listOf us.toArray nD) :: (lc, listOf (rs ++ [Value.ref D]).toArray nc') :: rest) → Q .next { s with heap := h', toks := tk' }) :
    wpAny (model PySem.Challenge.rw_jr0029_01.row.prog w) (arTop dp un gd (envOfC (Str.ofString "law") lsc L a cd) []) (execs (toldB.drop 3) (envOfC (Str.ofString "law") lsc L a cd)) Q (fun _ _ => False) s := by
  delta toldB giveB turnB lbody lawPart
  dsimp only [List.take, List.drop]
  have hul := hI9.length
  (repeat' ((fail_if_success (with_reducible show wpAny _ _ (exec (Stmt.For _ _ _ _ _) _) _ _ _)); (fail_if_success (with_reducible show wpAny _ _ (eval (Expr.ListComp _ _ _ _) _) _ _ _)); (fail_if_success (with_reducible show wpAny _ _ (pyIter (Value.ref _)) _ _ _)); (fail_if_success (with_reducible show wpAny _ _ (subscriptTail _ _ (Value.ref _) (Value.int _ _)) _ _ _)); (fail_if_success (with_reducible show wpAny _ _ (subscriptTail _ _ (Value.ref _) (Value.ref _)) _ _ _)); (fail_if_success (with_reducible show wpAny _ _ (compareOp _ (Value.ref _) (Value.ref _)) _ _ _)); (fail_if_success (with_reducible show LCg.CompSrc _ _ _ _ _ _ _ _ _ _ _ _ _ _)); (fail_if_success (with_reducible show LCt.CompSrcT _ _ _ _ _ _ _ _ _ _ _ _ _ _ _)); (fail_if_success (with_reducible show wpAny _ _ (binaryOp _ (Value.ref _) (Value.ref _)) _ _ _)); (fail_if_success (with_reducible show LCg.FinE _ _ _ _ _ _ _)); (fail_if_success (with_reducible show Turned _ _ _ _ _ _ _ _)); (first | (k_unfold; (try dsimp only)) | walk1 | (dsimp only; walk1) | ((dsimp only [List.nil_append, List.cons_append]); walk1) | (leave1; (try dsimp only)) | fail "no step")))
  all_goals first | exact Str.ofString "" | exact Value.none | exact (0 : Nat) | skip
  refine ne_intsK (vs := us) (us := []) (ms := []) (by kmk_list) hI9 (by kmk_list) .nil (by first | ktr_room | (show un + 64 < cLine; omega) | (show un + 1 + 64 < cLine; omega)) ?_
  generalize hdd : decide (zs = []) = dd
  cases dd
  · rw [Bool.not_false]
    (repeat' ((fail_if_success (with_reducible show wpAny _ _ (exec (Stmt.For _ _ _ _ _) _) _ _ _)); (fail_if_success (with_reducible show wpAny _ _ (eval (Expr.ListComp _ _ _ _) _) _ _ _)); (fail_if_success (with_reducible show wpAny _ _ (pyIter (Value.ref _)) _ _ _)); (fail_if_success (with_reducible show wpAny _ _ (subscriptTail _ _ (Value.ref _) (Value.int _ _)) _ _ _)); (fail_if_success (with_reducible show wpAny _ _ (subscriptTail _ _ (Value.ref _) (Value.ref _)) _ _ _)); (fail_if_success (with_reducible show wpAny _ _ (compareOp _ (Value.ref _) (Value.ref _)) _ _ _)); (fail_if_success (with_reducible show LCg.CompSrc _ _ _ _ _ _ _ _ _ _ _ _ _ _)); (fail_if_success (with_reducible show LCt.CompSrcT _ _ _ _ _ _ _ _ _ _ _ _ _ _ _)); (fail_if_success (with_reducible show wpAny _ _ (binaryOp _ (Value.ref _) (Value.ref _)) _ _ _)); (fail_if_success (with_reducible show LCg.FinE _ _ _ _ _ _ _)); (fail_if_success (with_reducible show Turned _ _ _ _ _ _ _ _)); (first | (k_unfold; (try dsimp only)) | walk1 | (dsimp only; walk1) | ((dsimp only [List.nil_append, List.cons_append]); walk1) | (leave1; (try dsimp only)) | fail "no step")))
    all_goals first | exact Str.ofString "" | exact Value.none | exact (0 : Nat) | skip
    refine LCg.ListComp_U (cl := []) (F₀ := by k_asm) (by kernel_rfl!) (by decide +kernel) (by rfl) (by decide +kernel) (by kernel_rfl!) ?_
    (repeat' ((fail_if_success (with_reducible show wpAny _ _ (exec (Stmt.For _ _ _ _ _) _) _ _ _)); (fail_if_success (with_reducible show wpAny _ _ (eval (Expr.ListComp _ _ _ _) _) _ _ _)); (fail_if_success (with_reducible show wpAny _ _ (pyIter (Value.ref _)) _ _ _)); (fail_if_success (with_reducible show wpAny _ _ (subscriptTail _ _ (Value.ref _) (Value.int _ _)) _ _ _)); (fail_if_success (with_reducible show wpAny _ _ (subscriptTail _ _ (Value.ref _) (Value.ref _)) _ _ _)); (fail_if_success (with_reducible show wpAny _ _ (compareOp _ (Value.ref _) (Value.ref _)) _ _ _)); (fail_if_success (with_reducible show LCg.CompSrc _ _ _ _ _ _ _ _ _ _ _ _ _ _)); (fail_if_success (with_reducible show LCt.CompSrcT _ _ _ _ _ _ _ _ _ _ _ _ _ _ _)); (fail_if_success (with_reducible show wpAny _ _ (binaryOp _ (Value.ref _) (Value.ref _)) _ _ _)); (fail_if_success (with_reducible show LCg.FinE _ _ _ _ _ _ _)); (fail_if_success (with_reducible show Turned _ _ _ _ _ _ _ _)); (first | (k_unfold; (try dsimp only)) | walk1 | (dsimp only; walk1) | ((dsimp only [List.nil_append, List.cons_append]); walk1) | (leave1; (try dsimp only)) | fail "no step")))
    all_goals first | exact Str.ofString "" | exact Value.none | exact (0 : Nat) | skip
    refine LCg.CompSrc.ledger (its := us.toArray) (by rfl) (by k_asm) (by k_asm) (by k_mem) (by rw [sizeLine_eq, List.size_toArray]; omega) ?_
    intro g
    (try dsimp only)
    refine comp_ind (fun i ys => ys = us.take i) (.inr ⟨_, by k_mem, rfl, _, rfl⟩) ?_ ?_ rfl
    · intro i v ys I oI C oC D m₂ h tk E' hi hv hg hC hx F3 N3
      (repeat' ((fail_if_success (with_reducible show wpAny _ _ (exec (Stmt.For _ _ _ _ _) _) _ _ _)); (fail_if_success (with_reducible show wpAny _ _ (eval (Expr.ListComp _ _ _ _) _) _ _ _)); (fail_if_success (with_reducible show wpAny _ _ (pyIter (Value.ref _)) _ _ _)); (fail_if_success (with_reducible show wpAny _ _ (subscriptTail _ _ (Value.ref _) (Value.int _ _)) _ _ _)); (fail_if_success (with_reducible show wpAny _ _ (subscriptTail _ _ (Value.ref _) (Value.ref _)) _ _ _)); (fail_if_success (with_reducible show wpAny _ _ (compareOp _ (Value.ref _) (Value.ref _)) _ _ _)); (fail_if_success (with_reducible show LCg.CompSrc _ _ _ _ _ _ _ _ _ _ _ _ _ _)); (fail_if_success (with_reducible show LCt.CompSrcT _ _ _ _ _ _ _ _ _ _ _ _ _ _ _)); (fail_if_success (with_reducible show wpAny _ _ (binaryOp _ (Value.ref _) (Value.ref _)) _ _ _)); (fail_if_success (with_reducible show LCg.FinE _ _ _ _ _ _ _)); (fail_if_success (with_reducible show Turned _ _ _ _ _ _ _ _)); (first | (k_unfold; (try dsimp only)) | walk1 | (dsimp only; walk1) | ((dsimp only [List.nil_append, List.cons_append]); walk1) | (leave1; (try dsimp only)) | fail "no step")))
      refine Turned.mk (by k_asm) (by k_asm) ?_
      rw [List.take_add_one, hg]
      simp only [List.getElem?_toArray] at hv
      rw [hv]; rfl
    · intro ys hg
      unfold FinE
      intro D h9 tk9 F9 N9 o9
      rw [hg, List.take_of_length_le (by simp)] at N9
      dsimp only
      have hD1 : @Ne Nat D lc := Ne.symm o9.2.1
      have hD3 : ∀ p ∈ rest, p.1 ≠ D := off1_all o9.2.2
      replace N9 : News h₀ L h9 ((D, lst us) :: (lc, listOf rs.toArray nc) :: rest) := fun p hp => N9 p (by
        rcases List.mem_cons.mp hp with h | h
        · exact h ▸ .head _
        · exact .tail _ (.tail _ h))
      clear o9
      (repeat' ((fail_if_success (with_reducible show wpAny _ _ (exec (Stmt.For _ _ _ _ _) _) _ _ _)); (fail_if_success (with_reducible show wpAny _ _ (eval (Expr.ListComp _ _ _ _) _) _ _ _)); (fail_if_success (with_reducible show wpAny _ _ (pyIter (Value.ref _)) _ _ _)); (fail_if_success (with_reducible show wpAny _ _ (subscriptTail _ _ (Value.ref _) (Value.int _ _)) _ _ _)); (fail_if_success (with_reducible show wpAny _ _ (subscriptTail _ _ (Value.ref _) (Value.ref _)) _ _ _)); (fail_if_success (with_reducible show wpAny _ _ (compareOp _ (Value.ref _) (Value.ref _)) _ _ _)); (fail_if_success (with_reducible show LCg.CompSrc _ _ _ _ _ _ _ _ _ _ _ _ _ _)); (fail_if_success (with_reducible show LCt.CompSrcT _ _ _ _ _ _ _ _ _ _ _ _ _ _ _)); (fail_if_success (with_reducible show wpAny _ _ (binaryOp _ (Value.ref _) (Value.ref _)) _ _ _)); (fail_if_success (with_reducible show LCg.FinE _ _ _ _ _ _ _)); (fail_if_success (with_reducible show Turned _ _ _ _ _ _ _ _)); (first | (k_unfold; (try dsimp only)) | walk1 | (dsimp only; walk1) | ((dsimp only [List.nil_append, List.cons_append]); walk1) | (leave1; (try dsimp only)) | fail "no step")))
      all_goals first | exact Str.ofString "" | exact Value.none | exact (0 : Nat) | skip
      rename Fr _ _ _ _ => F8
      rename News _ _ _ _ => N8
      rw [List.push_toArray] at N8
      exact hqB (of_decide_eq_false hdd) D _ _ _ _ hD1 hD3 F8 N8
  · rw [Bool.not_true]
    (repeat' ((fail_if_success (with_reducible show wpAny _ _ (exec (Stmt.For _ _ _ _ _) _) _ _ _)); (fail_if_success (with_reducible show wpAny _ _ (eval (Expr.ListComp _ _ _ _) _) _ _ _)); (fail_if_success (with_reducible show wpAny _ _ (pyIter (Value.ref _)) _ _ _)); (fail_if_success (with_reducible show wpAny _ _ (subscriptTail _ _ (Value.ref _) (Value.int _ _)) _ _ _)); (fail_if_success (with_reducible show wpAny _ _ (subscriptTail _ _ (Value.ref _) (Value.ref _)) _ _ _)); (fail_if_success (with_reducible show wpAny _ _ (compareOp _ (Value.ref _) (Value.ref _)) _ _ _)); (fail_if_success (with_reducible show LCg.CompSrc _ _ _ _ _ _ _ _ _ _ _ _ _ _)); (fail_if_success (with_reducible show LCt.CompSrcT _ _ _ _ _ _ _ _ _ _ _ _ _ _ _)); (fail_if_success (with_reducible show wpAny _ _ (binaryOp _ (Value.ref _) (Value.ref _)) _ _ _)); (fail_if_success (with_reducible show LCg.FinE _ _ _ _ _ _ _)); (fail_if_success (with_reducible show Turned _ _ _ _ _ _ _ _)); (first | (k_unfold; (try dsimp only)) | walk1 | (dsimp only; walk1) | ((dsimp only [List.nil_append, List.cons_append]); walk1) | (leave1; (try dsimp only)) | fail "no step")))
    rename Fr _ _ _ _ => F9
    rename News _ _ _ _ => N9
    exact hqA (of_decide_eq_true hdd) _ _ F9 (drop1 N9)
end
section
theorem rst_T11 : True := by w_top off; trivial
open LCg LCt
theorem drop_cut {α : Type} (l : List α) : ∀ {a b : Nat}, a ≤ b → l.drop a = (l.take b).drop a ++ l.drop b := by
  induction l with
  | nil => intro a b _; simp
  | cons x l ih =>
    intro a b h
    cases b with
    | zero => have : a = 0 := by omega
              subst this; rfl
    | succ b =>
      cases a with
      | zero => simp
      | succ a => simpa using ih (a := a) (b := b) (by omega)
theorem Dis.keys {k l : List (Addr × Obj)} (D : Dis l) (e : l.map Prod.fst = k.map Prod.fst) : Dis k := by
  have h : (l.map Prod.fst).Pairwise (· ≠ ·) := List.pairwise_map.mpr D.out
  rw [e] at h
  exact ⟨List.pairwise_map.mp h⟩
theorem Dis.ins4 {a b c d e : Addr × Obj} {l : List (Addr × Obj)} (D : Dis (a :: b :: c :: d :: l)) (h : ∀ q ∈ a :: b :: c :: d :: l, q.1 ≠ e.1) : Dis (a :: b :: c :: d :: e :: l) :=
  (D.cons h).perm (by
    refine (List.Perm.swap a e _).trans (List.Perm.cons a ?_)
    refine (List.Perm.swap b e _).trans (List.Perm.cons b ?_)
    refine (List.Perm.swap c e _).trans (List.Perm.cons c ?_)
    exact List.Perm.swap d e _)
set_option linter.all false in
theorem turnTold (w : World) (mean : ExcName → Option Value) (mg mb : Str → Option Value) (L a : Addr) (dp un : Nat) (gd : Option (List Code)) (cd : Value) (A₀ : Around) (h₀ : Heap) (m : Str → Option Value) (s : Shared) (rest : List (Addr × Obj)) (V dV lf lc : Addr) (nd nf nc : Nat) (k : Nat → Tok) (v : Nat → Value) (bpc kind wanted : Int) (ff : Nat) (t1 t2 t3 tw td : Tok) (bs : List Bool) (chains : List (List Int)) (rs : List Value) (fvs : List Value) (oF : Obj) (lr : Addr) (nr : Nat) (fs : List Value) (Q : Flow → Shared → Prop)
    (B : Below A₀ h₀ [] h₀) (F : Fr h₀ L s.heap m) (X : (Mine.hd.heap_1 w.params).In h₀) (N : News h₀ L s.heap ((V, instObj 316 dV) :: (dV, dictOf (volEs w.params k v (.int bpc t1) (.int (ff : Int) t2) (.int kind t3) (.ref lf) (.bool true) (.bool false)) nd) :: (lf, listOf fvs.toArray nf) :: (lc, listOf rs.toArray nc) :: rest))
    (T : Top Mine.hd.view_39 (looseW Mine.hd.view_39 [Str.ofString "PyFATException", Str.ofString "errno", Str.ofString "PyFat"]) mean mg mb h₀)
    (hD : Dis ((V, instObj 316 dV) :: (dV, dictOf (volEs w.params k v (.int bpc t1) (.int (ff : Int) t2) (.int kind t3) (.ref lf) (.bool true) (.bool false)) nd) :: (lf, listOf fvs.toArray nf) :: (lc, listOf rs.toArray nc) :: rest))
    (mv : m (Str.ofString "volume") = some (.ref V)) (mw : m (Str.ofString "wanted") = some (.int wanted tw)) (md : m (Str.ofString "due") = some (.int (numOf wanted bpc) td))
    (mc : m (Str.ofString "chains") = some (.ref lc)) (mF : (L + 1 + 1 + 1 + 1, oF) ∈ rest) (dF : oF.data = .cell (some (.ref lr))) (mr : (lr, listOf fs.toArray nr) ∈ rest) (hfs : IntsAre fs (scan (tableOf kind bs chains) 2 (bs.length + 2))) (hch : ChsIn rest rs chains) (hc30 : ∀ c ∈ chains, c.length ≤ 30)
    (hfat : IntsAre fvs (tableOf kind bs chains)) (hk : Kind kind) (W : WF bs chains) (hFF : FF (tableOf kind bs chains) (ff : Int)) (hbl : 4 ≤ bs.length ∧ bs.length ≤ 26) (hb1 : bs.getD (bs.length - 1) true = true) (hcn : chains.length ≤ 40) (hbpc : 1 ≤ bpc ∧ bpc ≤ 40) (hwt : 0 ≤ wanted ∧ wanted ≤ 4000)
    (hfree : numOf wanted bpc ≤ ((scan (tableOf kind bs chains) ff (bs.length + 2)).length : Int))
    (hdp : dp + 20 < recursionLimit) (hun : un + 200 < cLine)
    (hq : ∀ p chains' rs' nc' nf' fvs' t' cl h' tk' m', chains'.length ≤ chains.length + 1 → (∀ c ∈ chains', c.length ≤ 30) → WF bs chains' → FF (tableOf kind bs chains') ((p : Nat) : Int) → IntsAre fvs' (tableOf kind bs chains') → ChsIn (cl :: rest) rs' chains' →
      Dis ((V, instObj 316 dV) :: (dV, dictOf (volEs w.params k v (.int bpc t1) (.int ((p : Nat) : Int) t') (.int kind t3) (.ref lf) (.bool true) (.bool false)) nd) :: (lf, listOf (List.toArray fvs') nf') :: (lc, listOf (List.toArray rs') nc') :: cl :: rest) →
      (∀ y, y ≠ Str.ofString "told" → m' y = m y) → Fr h₀ L h' m' →
      News h₀ L h' ((V, instObj 316 dV) :: (dV, dictOf (volEs w.params k v (.int bpc t1) (.int ((p : Nat) : Int) t') (.int kind t3) (.ref lf) (.bool true) (.bool false)) nd) :: (lf, listOf (List.toArray fvs') nf') :: (lc, listOf (List.toArray rs') nc') :: cl :: rest) → Q .next { s with heap := h', toks := tk' }) :
    wpAny (model PySem.Challenge.rw_jr0029_01.row.prog w) (arTop dp un gd (envOfC (Str.ofString "law") lsc L a cd) []) (execs toldB (envOfC (Str.ofString "law") lsc L a cd)) Q (fun _ _ => False) s := by
  have d1 := hD.head
  have d2 := hD.tail.head
  have d3 := hD.tail.tail.head
  have d4 := hD.tail.tail.tail.head
  dsimp only at d1 d2 d3 d4
  have hfl : (tableOf kind bs chains).length = bs.length + 2 := tableOf_length ..
  rw [show toldB = toldB.take 2 ++ toldB.drop 2 from (List.take_append_drop ..).symm]
  refine execs_cut _ _ _ ?_
  refine turnTold1 w mean mg mb L a dp un gd cd A₀ h₀ m s rest V dV lf lc nd nf nc k v bpc kind wanted ff t1 t2 t3 tw td bs chains rs fvs _ B F X N T ⟨(d1 _ (.head _)).symm, (d1 _ (.tail _ (.head _))).symm, (d2 _ (.head _)).symm⟩ (fun p hp => d1 p (.tail _ (.tail _ hp))) (fun p hp => d2 p (.tail _ hp)) d3 mv mw md hfat hk W hFF ⟨hbl.1, by omega⟩ hb1 hcn hbpc hwt hfree hdp hun ?_
  intro r us n p fvs' nf' t' h' tk' hI hp hJ lt F1 N1
  show wpAny _ _ (execs (toldB.drop 2) _) _ _ _
  rw [drop_cut toldB (show 2 ≤ 3 by decide)]
  refine execs_cut _ _ _ ?_
  have hsub := told_free hI hp hFF
  rw [hfl] at hsub hp
  have hsl := len_of hI
  refine turnTold2 w mean mg mb L a dp un gd cd A₀ h₀ _ _ _ oF lr r nr n fs us _ _ _ B F1 X N1 T rfl (.tail _ (.tail _ (.tail _ (.tail _ (.tail _ mF))))) dF (.tail _ (.tail _ (.tail _ (.tail _ (.tail _ mr))))) hfs (.head _) hI (by omega) hsub hdp hun ?_
  intro h2 tk2 F2 N2
  show wpAny _ _ (execs (toldB.drop 3) _) _ _ _
  have hrl := hch.length
  refine turnTold3 w mean mg mb L a dp un gd cd A₀ h₀ _ _ ((r, listOf us.toArray n) :: (V, instObj 316 dV) :: (dV, dictOf (volEs w.params k v (.int bpc t1) (.int ((p : Nat) : Int) t') (.int kind t3) (.ref lf) (.bool true) (.bool false)) nd) :: (lf, listOf fvs'.toArray nf') :: rest) r lc n nc us rs _ _ B F2 X (fun q hq => N2 q ?n1) T rfl mc (.head _) hI (by omega) (by omega) ?n2 hdp hun ?qA ?qB
  case n1 =>
    simp only [List.mem_cons] at hq ⊢
    rcases hq with h | h | h | h | h | h
    · exact .inr (.inr (.inr (.inr (.inl h))))
    · exact .inl h
    · exact .inr (.inl h)
    · exact .inr (.inr (.inl h))
    · exact .inr (.inr (.inr (.inl h)))
    · exact .inr (.inr (.inr (.inr (.inr h))))
  case n2 =>
    intro q hq
    rcases List.mem_cons.mp hq with rfl | hq
    · exact Nat.ne_of_gt (lt.2.2.2 _ (.head _))
    rcases List.mem_cons.mp hq with rfl | hq
    · exact (d1 _ (.tail _ (.tail _ (.head _)))).symm
    rcases List.mem_cons.mp hq with rfl | hq
    · exact (d2 _ (.tail _ (.head _))).symm
    rcases List.mem_cons.mp hq with rfl | hq
    · exact (d3 _ (.head _)).symm
    exact d4 q hq
  case qA =>
    intro hz h3 tk3 F3 N3
    have hFF2 := ff_alloc hk W hFF hp
    rw [hz] at hJ hFF2
    refine hq p chains rs nc nf' fvs' t' (r, listOf us.toArray n) h3 tk3 _ (by omega) hc30 W hFF2 hJ (hch.mono fun q hq => .tail _ hq) ?_ (fun y hy => by simp only [hy, if_false]) F3 (fun q hq => N3 q ?_)
    · refine Dis.keys (hD.ins4 (e := (r, listOf us.toArray n)) ?_) rfl
      intro q hq
      rcases List.mem_cons.mp hq with rfl | hq
      · exact Nat.ne_of_lt lt.1
      rcases List.mem_cons.mp hq with rfl | hq
      · exact Nat.ne_of_lt lt.2.1
      rcases List.mem_cons.mp hq with rfl | hq
      · exact Nat.ne_of_lt lt.2.2.1
      exact Nat.ne_of_lt (lt.2.2.2 q hq)
    · simp only [List.mem_cons] at hq ⊢
      rcases hq with h | h | h | h | h | h
      · exact .inr (.inr (.inl h))
      · exact .inr (.inr (.inr (.inl h)))
      · exact .inr (.inr (.inr (.inr (.inl h))))
      · exact .inl h
      · exact .inr (.inl h)
      · exact .inr (.inr (.inr (.inr (.inr h))))
  case qB =>
    intro hz D nD nc' h3 tk3 hDl hDr F3 N3
    have hFF2 := ff_alloc hk W hFF hp
    have W2 := wf_alloc (a := ff) (p := p) hk W (by omega) hz
    rw [← tab_snoc] at hJ hFF2
    refine hq p (chains ++ [scan (tableOf kind bs chains) ff p]) (rs ++ [.ref D]) nc' nf' fvs' t' (D, listOf us.toArray nD) h3 tk3 _ (by simp) ?_ W2 hFF2 hJ ((hch.mono fun q hq => .tail _ hq).append (.cons (.head _) hI .nil)) ?_ (fun y hy => by simp only [hy, if_false]) F3 (fun q hq => N3 q ?_)
    · intro c hc
      rcases List.mem_append.mp hc with hc | hc
      · exact hc30 c hc
      · rw [List.mem_singleton.mp hc]; omega
    · have q1 := hDr _ (.tail _ (.head _))
      have q2 := hDr _ (.tail _ (.tail _ (.head _)))
      have q3 := hDr _ (.tail _ (.tail _ (.tail _ (.head _))))
      refine Dis.keys (hD.ins4 (e := (D, listOf us.toArray nD)) ?_) rfl
      intro q hq
      rcases List.mem_cons.mp hq with rfl | hq
      · exact q1
      rcases List.mem_cons.mp hq with rfl | hq
      · exact q2
      rcases List.mem_cons.mp hq with rfl | hq
      · exact q3
      rcases List.mem_cons.mp hq with rfl | hq
      · exact hDl.symm
      exact hDr q (.tail _ (.tail _ (.tail _ (.tail _ hq))))
    · simp only [List.mem_cons] at hq ⊢
      rcases hq with h | h | h | h | h | h
      · exact .inr (.inr (.inr (.inl h)))
      · exact .inr (.inr (.inr (.inr (.inl h))))
      · exact .inr (.inr (.inr (.inr (.inr (.inl h)))))
      · exact .inr (.inl h)
      · exact .inl h
      · exact .inr (.inr (.inr (.inr (.inr (.inr h)))))
end
section
theorem rst_T12 : True := by w_top off; trivial
open LCg LCt
set_option linter.all false in
theorem turnGive (w : World) (mean : ExcName → Option Value) (mg mb : Str → Option Value) (l L a : Addr) (vs : List Value) (ns : List Int) (dp un : Nat) (gd : Option (List Code)) (cd : Value) (A₀ : Around) (h₀ : Heap) (m : Str → Option Value) (s : Shared) (rest : List (Addr × Obj)) (V dV lf lc : Addr) (nd nf nc : Nat) (k : Nat → Tok) (v : Nat → Value) (bpc kind : Int) (ffc : Int) (t1 t2 t3 tt tz : Tok) (turn : Nat) (bs : List Bool) (chains : List (List Int)) (rs : List Value) (fvs : List Value) (oS oF : Obj) (lr : Addr) (nr : Nat) (fs : List Value) (Q : Flow → Shared → Prop)
    (B : Below A₀ h₀ [] h₀) (F : Fr h₀ L s.heap m) (X : (Mine.hd.heap_1 w.params).In h₀) (N : News h₀ L s.heap ((V, instObj 316 dV) :: (dV, dictOf (volEs w.params k v (.int bpc t1) (.int ffc t2) (.int kind t3) (.ref lf) (.bool true) (.bool false)) nd) :: (lf, listOf fvs.toArray nf) :: (lc, listOf rs.toArray nc) :: rest))
    (T : Top Mine.hd.view_39 (looseW Mine.hd.view_39 [Str.ofString "PyFATException", Str.ofString "errno", Str.ofString "PyFat"]) mean mg mb h₀)
    (hD : Dis ((V, instObj 316 dV) :: (dV, dictOf (volEs w.params k v (.int bpc t1) (.int ffc t2) (.int kind t3) (.ref lf) (.bool true) (.bool false)) nd) :: (lf, listOf fvs.toArray nf) :: (lc, listOf rs.toArray nc) :: rest))
    (mv : m (Str.ofString "volume") = some (.ref V)) (mz : m (Str.ofString "size") = some (.int bpc tz)) (mt : m (Str.ofString "turn") = some (.int (0 + (turn : Int)) tt)) (mc : m (Str.ofString "chains") = some (.ref lc))
    (mS : (L + 1, oS) ∈ rest) (dS : oS.data = .cell (some (.ref l))) (mF : (L + 1 + 1 + 1 + 1, oF) ∈ rest) (dF : oF.data = .cell (some (.ref lr))) (mr : (lr, listOf fs.toArray nr) ∈ rest) (hfs : IntsAre fs (scan (tableOf kind bs chains) 2 (bs.length + 2))) (hch : ChsIn rest rs chains) (hc30 : ∀ c ∈ chains, c.length ≤ 30)
    (hl : h₀.IsList l vs.toArray) (hi : IntsAre vs ns) (hn : ns.length ≤ 63) (htn : turn < 12)
    (hfat : IntsAre fvs (tableOf kind bs chains)) (hk : Kind kind) (W : WF bs chains) (hFF : FF (tableOf kind bs chains) ffc) (hbl : 4 ≤ bs.length ∧ bs.length ≤ 26) (hb1 : bs.getD (bs.length - 1) true = true) (hcn : chains.length ≤ 40) (hbpc : 1 ≤ bpc ∧ bpc ≤ 40) (hgb : AllBare s.gens)
    (hdp : dp + 20 < recursionLimit) (hun : un + 200 < cLine)
    (hq : ∀ pre lf' nf' fvs' ffc' t' lc' nc' rs' chains' h' tk' gens' m', AllBare gens' → chains'.length ≤ chains.length + 1 → (∀ c ∈ chains', c.length ≤ 30) → WF bs chains' → FF (tableOf kind bs chains') ffc' → IntsAre fvs' (tableOf kind bs chains') → ChsIn (pre ++ rest) rs' chains' →
      Dis ((V, instObj 316 dV) :: (dV, dictOf (volEs w.params k v (.int bpc t1) (.int ffc' t') (.int kind t3) (.ref lf') (.bool true) (.bool false)) nd) :: (lf', listOf (List.toArray fvs') nf') :: (lc', listOf (List.toArray rs') nc') :: (pre ++ rest)) →
      m' (Str.ofString "chains") = some (.ref lc') → (∀ y, y ≠ Str.ofString "chains" → y ≠ Str.ofString "at" → y ≠ Str.ofString "wanted" → y ≠ Str.ofString "due" → y ≠ Str.ofString "told" → m' y = m y) → Fr h₀ L h' m' →
      News h₀ L h' ((V, instObj 316 dV) :: (dV, dictOf (volEs w.params k v (.int bpc t1) (.int ffc' t') (.int kind t3) (.ref lf') (.bool true) (.bool false)) nd) :: (lf', listOf (List.toArray fvs') nf') :: (lc', listOf (List.toArray rs') nc') :: (pre ++ rest)) → Q .next { s with heap := h', toks := tk', gens := gens' }) :
    wpAny (model PySem.Challenge.rw_jr0029_01.row.prog w) (arTop dp un gd (envOfC (Str.ofString "law") lsc L a cd) []) (execs giveB (envOfC (Str.ofString "law") lsc L a cd)) Q (fun _ _ => False) s := by
  have hfl : (tableOf kind bs chains).length = bs.length + 2 := tableOf_length ..
  obtain ⟨ff, rfl⟩ : ∃ ff : Nat, ffc = (ff : Int) := ⟨ffc.toNat, by have := hFF.1; omega⟩
  have hsc : scan (tableOf kind bs chains) ff (bs.length + 2) = scan (tableOf kind bs chains) 2 (bs.length + 2) := scan_ff (fun q h2 hq => hFF.2.2 q h2 (by omega)) _
  have hsl := scan_length_le (tableOf kind bs chains) 2 (bs.length + 2)
  have hfsl := hfs.length
  have d1 := hD.head
  have d2 := hD.tail.head
  have d3 := hD.tail.tail.head
  dsimp only at d1 d2 d3
  rw [show giveB = giveB.take 2 ++ giveB.drop 2 from (List.take_append_drop ..).symm]
  refine execs_cut _ _ _ ?_
  refine turnW w mean mg mb l L a vs ns dp un gd cd A₀ h₀ m s _ bpc tz tt turn oS oF lr nr fs _ _ B F X N T mz mt (.tail _ (.tail _ (.tail _ (.tail _ mS)))) dS (.tail _ (.tail _ (.tail _ (.tail _ mF)))) dF (.tail _ (.tail _ (.tail _ (.tail _ mr)))) hfs hl hi hn hbpc (by omega) htn hdp hun ?_
  intro ta tb h1 tk1 F1 N1 hw0 hw1
  show wpAny _ _ (execs (giveB.drop 2) _) _ _ _
  clear F N
  generalize take ns (21 + 2 * (0 + (turn : Int))) (bpc * (((scan (tableOf kind bs chains) 2 (bs.length + 2)).length : Int) + 2)) = wanted at F1 hw0 hw1
  by_cases hdue : ((scan (tableOf kind bs chains) 2 (bs.length + 2)).length : Int) < numOf wanted bpc
  · delta giveB turnB lbody lawPart
    dsimp only [List.take, List.drop]
    iterate 13 walk1
    rw [if_pos (decide_eq_true hdue)]
    refine turnNo w mean mg mb L a dp un gd cd A₀ h₀ _ _ ((lc, listOf rs.toArray nc) :: rest) V dV lf nd nf k v bpc (ff : Int) kind wanted t1 t2 t3 ta (tableOf kind bs chains) fvs _ B F1 X N1 T ⟨(d1 _ (.head _)).symm, (d1 _ (.tail _ (.head _))).symm, (d2 _ (.head _)).symm⟩ (fun p hp => d1 p (.tail _ (.tail _ hp))) (fun p hp => d2 p (.tail _ hp)) d3 mv rfl hfat hk (by omega) ⟨hFF.1, hFF.2.1⟩ hbpc ⟨hw0, hw1⟩ hgb ?lack hdp hun ?_
    case lack =>
      rw [hfl, Int.toNat_natCast, hsc]; exact hdue
    intro h2 tk2 gens2 hb2 F2 N2
    refine wpAny_execs_nil ?_
    exact hq [] lf nf fvs _ t2 lc nc rs chains h2 tk2 gens2 _ hb2 (by omega) hc30 W hFF hfat hch hD (by exact mc) (fun y h1 h2 h3 h4 h5 => by simp only [h3, h4, if_false]) F2 N2
  · delta giveB turnB lbody lawPart
    dsimp only [List.take, List.drop]
    iterate 13 walk1
    rw [if_neg (fun h => hdue (of_decide_eq_true h))]
    refine turnTold w mean mg mb L a dp un gd cd A₀ h₀ _ _ rest V dV lf lc nd nf nc k v bpc kind wanted ff t1 t2 t3 ta tb bs chains rs fvs oF lr nr fs _ B F1 X N1 T hD mv rfl rfl mc mF dF mr hfs hch hc30 hfat hk W hFF hbl hb1 hcn hbpc ⟨hw0, hw1⟩ (by rw [hsc]; omega) hdp hun ?_
    intro p chains' rs' nc' nf' fvs' t' cl h2 tk2 m2 hlen hc30' W' hFF' hfat' hch' hD' hm2 F2 N2
    refine wpAny_execs_nil ?_
    exact hq [cl] lf nf' fvs' _ t' lc nc' rs' chains' h2 tk2 s.gens m2 hgb hlen hc30' W' hFF' hfat' hch' hD' ((hm2 _ (by decide)).trans mc) (fun y h1 h2 h3 h4 h5 => (hm2 y h5).trans (by simp only [h3, h4, if_false])) F2 N2
end
section
theorem rst_T13 : True := by w_top off; trivial
open LCg LCt
theorem Dis.ins2 {a b e : Addr × Obj} {l : List (Addr × Obj)} (D : Dis (a :: b :: l)) (h : ∀ q ∈ a :: b :: l, q.1 ≠ e.1) : Dis (a :: b :: e :: l) :=
  (D.cons h).perm ((List.Perm.swap a e _).trans (List.Perm.cons a (List.Perm.swap b e _)))
set_option linter.all false in
theorem turnDeed (w : World) (mean : ExcName → Option Value) (mg mb : Str → Option Value) (l L a : Addr) (vs : List Value) (ns : List Int) (dp un : Nat) (gd : Option (List Code)) (cd : Value) (A₀ : Around) (h₀ : Heap) (m : Str → Option Value) (s : Shared) (rest : List (Addr × Obj)) (V dV lf lc : Addr) (nd nf nc : Nat) (k : Nat → Tok) (v : Nat → Value) (bpc kind : Int) (ffc : Int) (t1 t2 t3 tt tz td : Tok) (deed : Int) (turn : Nat) (bs : List Bool) (chains : List (List Int)) (rs : List Value) (fvs : List Value) (oS oF : Obj) (lr : Addr) (nr : Nat) (fs : List Value) (Q : Flow → Shared → Prop)
    (B : Below A₀ h₀ [] h₀) (F : Fr h₀ L s.heap m) (X : (Mine.hd.heap_1 w.params).In h₀) (N : News h₀ L s.heap ((V, instObj 316 dV) :: (dV, dictOf (volEs w.params k v (.int bpc t1) (.int ffc t2) (.int kind t3) (.ref lf) (.bool true) (.bool false)) nd) :: (lf, listOf fvs.toArray nf) :: (lc, listOf rs.toArray nc) :: rest))
    (T : Top Mine.hd.view_39 (looseW Mine.hd.view_39 [Str.ofString "PyFATException", Str.ofString "errno", Str.ofString "PyFat"]) mean mg mb h₀)
    (hD : Dis ((V, instObj 316 dV) :: (dV, dictOf (volEs w.params k v (.int bpc t1) (.int ffc t2) (.int kind t3) (.ref lf) (.bool true) (.bool false)) nd) :: (lf, listOf fvs.toArray nf) :: (lc, listOf rs.toArray nc) :: rest))
    (mv : m (Str.ofString "volume") = some (.ref V)) (mz : m (Str.ofString "size") = some (.int bpc tz)) (mt : m (Str.ofString "turn") = some (.int (0 + (turn : Int)) tt)) (mc : m (Str.ofString "chains") = some (.ref lc))
    (mS : (L + 1, oS) ∈ rest) (dS : oS.data = .cell (some (.ref l))) (mF : (L + 1 + 1 + 1 + 1, oF) ∈ rest) (dF : oF.data = .cell (some (.ref lr))) (mr : (lr, listOf fs.toArray nr) ∈ rest) (hfs : IntsAre fs (scan (tableOf kind bs chains) 2 (bs.length + 2))) (hch : ChsIn rest rs chains) (hc30 : ∀ c ∈ chains, c.length ≤ 30)
    (hl : h₀.IsList l vs.toArray) (hi : IntsAre vs ns) (hn : ns.length ≤ 63) (htn : turn < 12)
    (hfat : IntsAre fvs (tableOf kind bs chains)) (hk : Kind kind) (W : WF bs chains) (hFF : FF (tableOf kind bs chains) ffc) (md : m (Str.ofString "deed") = some (.int deed td)) (hbl : 4 ≤ bs.length ∧ bs.length ≤ 26) (hb1 : bs.getD (bs.length - 1) true = true) (hcn : chains.length ≤ 40) (hbpc : 1 ≤ bpc ∧ bpc ≤ 40) (hgb : AllBare s.gens)
    (hdp : dp + 20 < recursionLimit) (hun : un + 200 < cLine)
    (hq : ∀ pre lf' nf' fvs' ffc' t' lc' nc' rs' chains' h' tk' gens' m', AllBare gens' → chains'.length ≤ chains.length + 1 → (∀ c ∈ chains', c.length ≤ 30) → WF bs chains' → FF (tableOf kind bs chains') ffc' → IntsAre fvs' (tableOf kind bs chains') → ChsIn (pre ++ rest) rs' chains' →
      Dis ((V, instObj 316 dV) :: (dV, dictOf (volEs w.params k v (.int bpc t1) (.int ffc' t') (.int kind t3) (.ref lf') (.bool true) (.bool false)) nd) :: (lf', listOf (List.toArray fvs') nf') :: (lc', listOf (List.toArray rs') nc') :: (pre ++ rest)) →
      m' (Str.ofString "chains") = some (.ref lc') → (∀ y, y ≠ Str.ofString "chains" → y ≠ Str.ofString "at" → y ≠ Str.ofString "wanted" → y ≠ Str.ofString "due" → y ≠ Str.ofString "told" → m' y = m y) → Fr h₀ L h' m' →
      News h₀ L h' ((V, instObj 316 dV) :: (dV, dictOf (volEs w.params k v (.int bpc t1) (.int ffc' t') (.int kind t3) (.ref lf') (.bool true) (.bool false)) nd) :: (lf', listOf (List.toArray fvs') nf') :: (lc', listOf (List.toArray rs') nc') :: (pre ++ rest)) → Q .next { s with heap := h', toks := tk', gens := gens' }) :
    wpAny (model PySem.Challenge.rw_jr0029_01.row.prog w) (arTop dp un gd (envOfC (Str.ofString "law") lsc L a cd) []) (execs ((turnB.take 4).drop 3) (envOfC (Str.ofString "law") lsc L a cd)) Q (fun _ _ => False) s := by
  have hfl : (tableOf kind bs chains).length = bs.length + 2 := tableOf_length ..
  have hrl := hch.length
  have d1 := hD.head
  have d2 := hD.tail.head
  have d3 := hD.tail.tail.head
  dsimp only at d1 d2 d3
  delta turnB lbody lawPart
  dsimp only [List.take, List.drop]
  by_cases hd : deed = 3
  · iterate 8 (walk1; (all_goals first | exact Str.ofString "" | exact Value.none | exact (0 : Nat) | skip))
    rw [if_pos (by simpa using hd)]
    iterate 3 (walk1; (all_goals first | exact Str.ofString "" | exact Value.none | exact (0 : Nat) | skip))
    refine wpAny_truthy_list (items := rs.toArray) (by kmk_list) (by rw [List.size_toArray]; omega) ?_
    by_cases hc : 0 < chains.length
    · rw [show (!rs.toArray.isEmpty) = true by cases rs with | nil => (simp only [List.length_nil] at hrl; omega) | cons _ _ => rfl]
      rw [if_pos rfl]
      walk1
      rw [if_pos rfl]
      refine turnFree w mean mg mb l L a vs ns dp un gd cd A₀ h₀ _ _ ((lc, listOf rs.toArray nc) :: rest) V dV lf nd nf k v (.int bpc t1) ffc kind fvs t2 t3 tt turn oS lc nc bs rs chains _ B F X N T (d1 _ (.head _)).symm (d1 _ (.tail _ (.head _))).symm (d2 _ (.head _)).symm (fun p hp => d1 p (.tail _ (.tail _ hp))) (fun p hp => d2 p (.tail _ hp)) d3 hfat mv mc mt (.tail _ mS) dS (.head _) (hch.mono fun q hq => .tail _ hq) hl hi hn hk W hFF hc hcn hgb (by omega) htn hdp hun ?_
      intro i lf' us n' lc' rs' ffc' t' h2 tk2 gens2 m2 hb2 hi2 hfat2 hFF2 hch2 hlt hlt2 hm1 hm2 F2 N2
      refine wpAny_execs_nil ?_
      refine hq [(lc, listOf rs.toArray nc)] lf' n' us ffc' t' lc' 0 rs' _ h2 tk2 gens2 m2 hb2 ?_ ?_ (wf_sub W (drop_sub chains i)) hFF2 hfat2 hch2 ?_ hm1 (fun y h1 h2 h3 h4 h5 => hm2 y h1 h2) F2 (fun q hq => N2 q ?_)
      · have := (drop_sub chains i).length_le; omega
      · exact fun c hc => hc30 c ((drop_sub chains i).subset hc)
      · have D1 : Dis ((V, instObj 316 dV) :: (dV, dictOf (volEs w.params k v (.int bpc t1) (.int ffc' t') (.int kind t3) (.ref lf') (.bool true) (.bool false)) nd) :: (lc, listOf rs.toArray nc) :: rest) :=
          Dis.keys (hD.sub (List.Sublist.cons_cons _ (List.Sublist.cons_cons _ (List.Sublist.cons _ (List.Sublist.refl _))))) rfl
        refine (D1.ins2 (e := (lc', listOf rs'.toArray 0)) (fun q hq => Nat.ne_of_lt (Nat.lt_trans (hlt q hq) hlt2))).ins2 (e := (lf', listOf us.toArray n')) ?_
        intro q hq
        rcases List.mem_cons.mp hq with rfl | hq
        · exact Nat.ne_of_lt (hlt _ (.head _))
        rcases List.mem_cons.mp hq with rfl | hq
        · exact Nat.ne_of_lt (hlt _ (.tail _ (.head _)))
        rcases List.mem_cons.mp hq with rfl | hq
        · exact Nat.ne_of_gt hlt2
        exact Nat.ne_of_lt (hlt q (.tail _ (.tail _ hq)))
      · simp only [List.mem_cons, List.cons_append, List.nil_append] at hq ⊢
        rcases hq with h | h | h | h | h
        · exact .inr (.inr (.inl h))
        · exact .inr (.inr (.inr (.inl h)))
        · exact .inr (.inl h)
        · exact .inl h
        · exact .inr (.inr (.inr (.inr h)))
    · rw [show (!rs.toArray.isEmpty) = false by cases rs with | nil => rfl | cons _ _ => (simp only [List.length_cons] at hrl; omega)]
      rw [if_neg (by decide)]
      refine turnGive w mean mg mb l L a vs ns dp un gd cd A₀ h₀ _ _ rest V dV lf lc nd nf nc k v bpc kind ffc t1 t2 t3 tt tz turn bs chains rs fvs oS oF lr nr fs _ B F X N T hD mv mz mt mc mS dS mF dF mr hfs hch hc30 hl hi hn htn hfat hk W hFF hbl hb1 hcn hbpc hgb hdp hun ?_
      intro pre lf' nf' fvs' ffc' t' lc' nc' rs' chains' h' tk' gens' m' a1 a2 a3 a4 a5 a6 a7 a8 a9 a10 a11 a12
      refine wpAny_execs_nil ?_
      exact hq pre lf' nf' fvs' ffc' t' lc' nc' rs' chains' h' _ gens' m' a1 a2 a3 a4 a5 a6 a7 a8 a9 a10 a11 a12
  · iterate 8 (walk1; (all_goals first | exact Str.ofString "" | exact Value.none | exact (0 : Nat) | skip))
    rw [if_neg (by simpa using hd), if_neg (by decide)]
    refine turnGive w mean mg mb l L a vs ns dp un gd cd A₀ h₀ _ _ rest V dV lf lc nd nf nc k v bpc kind ffc t1 t2 t3 tt tz turn bs chains rs fvs oS oF lr nr fs _ B F X N T hD mv mz mt mc mS dS mF dF mr hfs hch hc30 hl hi hn htn hfat hk W hFF hbl hb1 hcn hbpc hgb hdp hun ?_
    intro pre lf' nf' fvs' ffc' t' lc' nc' rs' chains' h' tk' gens' m' a1 a2 a3 a4 a5 a6 a7 a8 a9 a10 a11 a12
    refine wpAny_execs_nil ?_
    exact hq pre lf' nf' fvs' ffc' t' lc' nc' rs' chains' h' _ gens' m' a1 a2 a3 a4 a5 a6 a7 a8 a9 a10 a11 a12
end
section
theorem rst_T14 : True := by w_top off; trivial
open LCg LCt
theorem ChsIn.strip {news k : List (Addr × Obj)} {rs : List Value} {cs : List (List Int)} (h : ChsIn news rs cs) (hs : ∀ a vs n, (a, listOf vs n) ∈ news → (a, listOf vs n) ∈ k) : ChsIn k rs cs := by
  induction h with
  | nil => exact .nil
  | cons hm hi _ ih => exact .cons (hs _ _ _ hm) hi ih
theorem cell_not_list {o : Obj} {v : Option Value} (h : o.data = .cell v) : ∀ a n, o ≠ listOf a n := fun a n e => by
  rw [e] at h
  exact nomatch h
theorem inOf {kind : Int} {bs : List Bool} {chains : List (List Int)} (W : WF bs chains) (hc30 : ∀ c ∈ chains, c.length ≤ 30) : ∀ c ∈ chains, c.length ≤ 40 ∧ ∀ z ∈ c, 0 ≤ z ∧ z < (bs.length : Int) + 2 := fun c hc =>
  ⟨Nat.le_trans (hc30 c hc) (by decide), fun z hz => by have := W.rng c hc z hz; omega⟩
/-- how the ledger and the names stand between the turns of the main loop -/
def Shape (P : Params) (L V dV : Addr) (nd : Nat) (k : Nat → Tok) (v : Nat → Value) (size kind : Int) (tb t3 tk tz : Tok) (oS oM : Obj) (lm : Addr) (nm : Nat) (bs : List Bool) (bound : Nat) (m : Str → Option Value) (nx : List (Addr × Obj)) : Prop :=
  ∃ chains lf nf fvs ffc tf lc nc rs oT oF vT vF rest,
    nx = (V, instObj 316 dV) :: (dV, dictOf (volEs P k v (.int size tb) (.int ffc tf) (.int kind t3) (.ref lf) (.bool true) (.bool false)) nd) :: (lf, listOf (List.toArray fvs) nf) :: (lc, listOf (List.toArray rs) nc) :: (L + 1 + 1 + 1, oT) :: (L + 1 + 1 + 1 + 1, oF) :: rest ∧
    Dis nx ∧ WF bs chains ∧ FF (tableOf kind bs chains) ffc ∧ IntsAre fvs (tableOf kind bs chains) ∧ ChsIn rest rs chains ∧ chains.length ≤ bound ∧ (∀ c ∈ chains, c.length ≤ 30) ∧ oT.data = .cell vT ∧ oF.data = .cell vF ∧
    (L + 1, oS) ∈ rest ∧ (L + 1 + 1, oM) ∈ rest ∧ (lm, listOf (bs.map Value.bool).toArray nm) ∈ rest ∧
    m (Str.ofString "kind") = some (.int kind tk) ∧ m (Str.ofString "size") = some (.int size tz) ∧ m (Str.ofString "volume") = some (.ref V) ∧ m (Str.ofString "chains") = some (.ref lc)
set_option linter.all false in
theorem turn_claim (w : World) (mean : ExcName → Option Value) (mg mb : Str → Option Value) (l L a : Addr) (vs : List Value) (ns : List Int) (dp un : Nat) (gd : Option (List Code)) (cd : Value) (A₀ : Around) (h₀ : Heap) (m : Str → Option Value) (s : Shared) (nx : List (Addr × Obj)) (I : Addr) (oI : Obj) (V dV : Addr) (nd : Nat) (k : Nat → Tok) (v : Nat → Value) (size kind : Int) (tb t3 tk tz tt : Tok) (turn : Nat) (oS oM : Obj) (lm : Addr) (nm : Nat) (bs : List Bool) (bound : Nat) (Q : Flow → Shared → Prop)
    (B : Below A₀ h₀ [] h₀) (F : Fr h₀ L s.heap m) (X : (Mine.hd.heap_1 w.params).In h₀) (N : News h₀ L s.heap ((I, oI) :: nx))
    (T : Top Mine.hd.view_39 (looseW Mine.hd.view_39 [Str.ofString "PyFATException", Str.ofString "errno", Str.ofString "PyFat"]) mean mg mb h₀)
    (hS : Shape w.params L V dV nd k v size kind tb t3 tk tz oS oM lm nm bs bound m nx) (hI : ∀ p ∈ nx, p.1 ≠ I) (hoI : ∀ a c, oI ≠ listOf a c)
    (mt : m (Str.ofString "turn") = some (.int (0 + (turn : Int)) tt)) (dS : oS.data = .cell (some (.ref l))) (dM : oM.data = .cell (some (.ref lm)))
    (hl : h₀.IsList l vs.toArray) (hi : IntsAre vs ns) (hn : ns.length ≤ 63) (htn : turn < 12) (hk : Kind kind) (hbl : 4 ≤ bs.length ∧ bs.length ≤ 26) (hb1 : bs.getD (bs.length - 1) true = true) (hsz : 1 ≤ size ∧ size ≤ 40) (hgb : AllBare s.gens) (hbd : bound ≤ 30)
    (hdp : dp + 20 < recursionLimit) (hun : un + 200 < cLine)
    (hq : ∀ h' tk' gens' m' nx', AllBare gens' → Shape w.params L V dV nd k v size kind tb t3 tk tz oS oM lm nm bs (bound + 1) m' nx' → (∀ p ∈ nx', p.1 ≠ I) → Fr h₀ L h' m' → News h₀ L h' ((I, oI) :: nx') → Q .next { s with heap := h', toks := tk', gens := gens' }) :
    wpAny (model PySem.Challenge.rw_jr0029_01.row.prog w) (arTop dp un gd (envOfC (Str.ofString "law") lsc L a cd) []) (execs turnB (envOfC (Str.ofString "law") lsc L a cd)) Q (fun _ _ => False) s := by
  obtain ⟨chains, lf, nf, fvs, ffc, tf, lc, nc, rs, oT, oF, vT, vF, rest, rfl, hD, W, hFF, hfat, hch, hcl, hc30, hT, hF, mS, mM, ml, k1, k2, k3, k4⟩ := hS
  have D0 := hD.cons (p := (I, oI)) hI
  rw [show turnB = turnB.take 3 ++ turnB.drop 3 from (List.take_append_drop ..).symm]
  refine execs_cut _ _ _ ?_
  have nochs : ∀ p, (∀ a vs n, p ≠ ((a : Addr), listOf vs n)) → True := fun _ _ => trivial
  refine turnA w mean mg mb l L a vs ns dp un gd cd A₀ h₀ m s ((V, instObj 316 dV) :: (dV, dictOf (volEs w.params k v (.int size tb) (.int ffc tf) (.int kind t3) (.ref lf) (.bool true) (.bool false)) nd) :: (lf, listOf fvs.toArray nf) :: (lc, listOf rs.toArray nc) :: (I, oI) :: rest) kind tk tt turn oS oM oT oF vT vF lm lc nm nc bs rs chains _ _ B F X (fun q hq => N q ?n1) T k1 k4 mt ?mS dS ?mM dM hT hF ?ml (.tail _ (.tail _ (.tail _ (.head _)))) (hch.mono fun q hq => .tail _ (.tail _ (.tail _ (.tail _ (.tail _ hq))))) ?D1 hl hi hn hk (by omega) (inOf (kind := kind) W hc30) htn hdp hun ?_
  case n1 =>
    simp only [List.mem_cons] at hq ⊢
    rcases hq with h | h | h | h | h | h | h | h
    · exact .inr (.inr (.inr (.inr (.inr (.inl h)))))
    · exact .inr (.inr (.inr (.inr (.inr (.inr (.inl h))))))
    · exact .inr (.inl h)
    · exact .inr (.inr (.inl h))
    · exact .inr (.inr (.inr (.inl h)))
    · exact .inr (.inr (.inr (.inr (.inl h))))
    · exact .inl h
    · exact .inr (.inr (.inr (.inr (.inr (.inr (.inr h))))))
  case mS => exact .tail _ (.tail _ (.tail _ (.tail _ (.tail _ mS))))
  case mM => exact .tail _ (.tail _ (.tail _ (.tail _ (.tail _ mM))))
  case ml => exact .tail _ (.tail _ (.tail _ (.tail _ (.tail _ ml))))
  case D1 =>
    exact Dis.perm D0 (((List.perm_append_comm (l₁ := [(I, oI)]) (l₂ := [(V, instObj 316 dV), (dV, dictOf (volEs w.params k v (.int size tb) (.int ffc tf) (.int kind t3) (.ref lf) (.bool true) (.bool false)) nd), (lf, listOf fvs.toArray nf), (lc, listOf rs.toArray nc)] ++ [(L + 1 + 1 + 1, oT), (L + 1 + 1 + 1 + 1, oF)])).trans (List.perm_append_comm.append_right [(I, oI)])).append_right rest)
  intro lt us n lr fs n2 oF' oT' td h1 tk1 hus hfs dF' dT' F1 N1 D1
  show wpAny _ _ (execs (turnB.drop 3) _) _ _ _
  clear F N
  rw [drop_cut turnB (show 3 ≤ 4 by decide)]
  refine execs_cut _ _ _ ?_
  refine turnDeed w mean mg mb l L a vs ns dp un gd cd A₀ h₀ _ _ ((lr, listOf fs.toArray n2) :: (L + 1 + 1 + 1, oT') :: (L + 1 + 1 + 1 + 1, oF') :: (I, oI) :: rest) V dV lf lc nd nf nc k v size kind ffc tb tf t3 tt tz td _ turn bs chains rs fvs oS oF' lr n2 fs _ B F1 X (fun q hq => N1 q ?n2) T ?D2 k3 k2 mt k4 (.tail _ (.tail _ (.tail _ (.tail _ mS)))) dS (.tail _ (.tail _ (.head _))) dF' (.head _) hfs (hch.mono fun q hq => .tail _ (.tail _ (.tail _ (.tail _ hq)))) hc30 hl hi hn htn hfat hk W hFF rfl hbl hb1 (by omega) hsz hgb hdp hun ?_
  case n2 =>
    simp only [List.mem_cons] at hq ⊢
    rcases hq with h | h | h | h | h | h | h | h | h
    · exact .inr (.inr (.inr (.inr (.inl h))))
    · exact .inr (.inr (.inr (.inr (.inr (.inl h)))))
    · exact .inr (.inr (.inr (.inr (.inr (.inr (.inl h))))))
    · exact .inr (.inr (.inr (.inr (.inr (.inr (.inr (.inl h)))))))
    · exact .inl h
    · exact .inr (.inr (.inl h))
    · exact .inr (.inr (.inr (.inl h)))
    · exact .inr (.inr (.inr (.inr (.inr (.inr (.inr (.inr (.inl h))))))))
    · exact .inr (.inr (.inr (.inr (.inr (.inr (.inr (.inr (.inr h))))))))
  case D2 =>
    have D1' := D1.sub (List.Sublist.cons_cons _ (List.Sublist.cons _ (List.Sublist.refl _)))
    exact Dis.perm D1' ((List.perm_append_comm (l₁ := [(lr, listOf fs.toArray n2), (L + 1 + 1 + 1, oT'), (L + 1 + 1 + 1 + 1, oF')]) (l₂ := [(V, instObj 316 dV), (dV, dictOf (volEs w.params k v (.int size tb) (.int ffc tf) (.int kind t3) (.ref lf) (.bool true) (.bool false)) nd), (lf, listOf fvs.toArray nf), (lc, listOf rs.toArray nc)])).append_right ((I, oI) :: rest))
  intro pre lf' nf' fvs' ffc' t' lc' nc' rs' chains' h2 tk2 gens2 m2 hgb2 hcl2 hc302 W2 hFF2 hfat2 hch2 D3 kc2 km2 F2 N2
  show wpAny _ _ (execs (turnB.drop 4) _) _ _ _
  clear F1 N1
  have km : ∀ y, y ≠ Str.ofString "deed" → y ≠ Str.ofString "chains" → y ≠ Str.ofString "at" → y ≠ Str.ofString "wanted" → y ≠ Str.ofString "due" → y ≠ Str.ofString "told" → m2 y = m y := fun y h0 h1 h2 h3 h4 h5 => (km2 y h1 h2 h3 h4 h5).trans (by simp only [h0, if_false])
  have kk := (km (Str.ofString "kind") (by decide) (by decide) (by decide) (by decide) (by decide) (by decide)).trans k1
  have kz := (km (Str.ofString "size") (by decide) (by decide) (by decide) (by decide) (by decide) (by decide)).trans k2
  have kv := (km (Str.ofString "volume") (by decide) (by decide) (by decide) (by decide) (by decide) (by decide)).trans k3
  rw [drop_cut turnB (show 4 ≤ 5 by decide)]
  refine execs_cut _ _ _ ?_
  refine turnC w mean mg mb L a dp un gd cd A₀ h₀ _ _ _ V dV lf' nd nf' k v _ _ _ _ _ fvs' kind tk oM lm lc' nm nc' bs rs' chains' _ _ B F2 X N2 T (.head _) (.tail _ (.head _)) (.tail _ (.tail _ (.head _))) hfat2 kk kv kc2 ?mM2 dM ?ml2 (.tail _ (.tail _ (.tail _ (.head _)))) (hch2.mono fun q hq => .tail _ (.tail _ (.tail _ (.tail _ hq)))) hk (by omega) (inOf (kind := kind) W2 hc302) hdp hun ?_
  case mM2 => exact .tail _ (.tail _ (.tail _ (.tail _ (List.mem_append_right _ (.tail _ (.tail _ (.tail _ (.tail _ mM))))))))
  case ml2 => exact .tail _ (.tail _ (.tail _ (.tail _ (List.mem_append_right _ (.tail _ (.tail _ (.tail _ (.tail _ ml))))))))
  intro h3 tk3 F3 N3
  show wpAny _ _ (execs (turnB.drop 5) _) _ _ _
  clear F2 N2
  rw [show turnB.drop 5 = (turnB.take 6).drop 5 from by kernel_rfl!]
  refine turnD w mean mg mb L a dp un gd cd A₀ h₀ _ _ _ V dV lf' nd nf' k v _ _ _ fvs' kind t3 lc' nc' bs rs' chains' _ B F3 X N3 T (.head _) (.tail _ (.head _)) (.tail _ (.tail _ (.head _))) hfat2 kv kc2 (.tail _ (.tail _ (.tail _ (.head _)))) (hch2.mono fun q hq => .tail _ (.tail _ (.tail _ (.tail _ hq)))) hk W2 hc302 hgb2 (by omega) hdp hun ?_
  intro h4 tk4 gens4 m4 hgb4 hm4 F4 N4
  clear F3 N3
  have D4 : Dis ((I, oI) :: (V, instObj 316 dV) :: (dV, dictOf (volEs w.params k v (.int size tb) (.int ffc' t') (.int kind t3) (.ref lf') (.bool true) (.bool false)) nd) :: (lf', listOf fvs'.toArray nf') :: (lc', listOf rs'.toArray nc') :: (L + 1 + 1 + 1, oT') :: (L + 1 + 1 + 1 + 1, oF') :: (pre ++ (lr, listOf fs.toArray n2) :: rest)) := by
    refine Dis.perm D3 ?_
    have p1 : List.Perm (pre ++ ([(lr, listOf fs.toArray n2)] ++ ([(L + 1 + 1 + 1, oT'), (L + 1 + 1 + 1 + 1, oF'), (I, oI)] ++ rest))) ([(L + 1 + 1 + 1, oT'), (L + 1 + 1 + 1 + 1, oF'), (I, oI)] ++ (pre ++ ([(lr, listOf fs.toArray n2)] ++ rest))) := by
      refine (List.Perm.append_left pre (List.perm_append_comm_assoc _ _ _)).trans ?_
      exact List.perm_append_comm_assoc _ _ _
    refine (List.Perm.append_left [(V, instObj 316 dV), (dV, dictOf (volEs w.params k v (.int size tb) (.int ffc' t') (.int kind t3) (.ref lf') (.bool true) (.bool false)) nd), (lf', listOf fvs'.toArray nf'), (lc', listOf rs'.toArray nc')] p1).trans ?_
    exact List.perm_append_comm_assoc [(V, instObj 316 dV), (dV, dictOf (volEs w.params k v (.int size tb) (.int ffc' t') (.int kind t3) (.ref lf') (.bool true) (.bool false)) nd), (lf', listOf fvs'.toArray nf'), (lc', listOf rs'.toArray nc'), (L + 1 + 1 + 1, oT'), (L + 1 + 1 + 1 + 1, oF')] [(I, oI)] (pre ++ ([(lr, listOf fs.toArray n2)] ++ rest))
  refine hq h4 tk4 gens4 m4 _ hgb4 ⟨chains', lf', nf', fvs', ffc', t', lc', nc', rs', oT', oF', _, _, pre ++ (lr, listOf fs.toArray n2) :: rest, rfl, D4.tail, W2, hFF2, hfat2, ?ch, by omega, hc302, dT', dF', ?a1, ?a2, ?a3, (hm4 _ (by decide)).trans kk, (hm4 _ (by decide)).trans kz, (hm4 _ (by decide)).trans kv, (hm4 _ (by decide)).trans kc2⟩ D4.head F4 (fun q hq => N4 q ?n4)
  case ch =>
    refine hch2.strip fun a vs n hm => ?_
    rcases List.mem_append.mp hm with h | h
    · exact List.mem_append_left _ h
    rcases List.mem_cons.mp h with h | h
    · exact List.mem_append_right _ (h ▸ .head _)
    rcases List.mem_cons.mp h with h | h
    · exact absurd (congrArg Prod.snd h).symm (cell_not_list dT' _ _)
    rcases List.mem_cons.mp h with h | h
    · exact absurd (congrArg Prod.snd h).symm (cell_not_list dF' _ _)
    rcases List.mem_cons.mp h with h | h
    · exact absurd (congrArg Prod.snd h).symm (hoI _ _)
    exact List.mem_append_right _ (.tail _ h)
  case a1 => exact List.mem_append_right _ (.tail _ mS)
  case a2 => exact List.mem_append_right _ (.tail _ mM)
  case a3 => exact List.mem_append_right _ (.tail _ ml)
  case n4 =>
    simp only [List.mem_cons, List.mem_append] at hq ⊢
    rcases hq with h | h | h | h | h | h | h | h | h | h
    · exact .inr (.inr (.inr (.inr (.inr (.inr (.inr (.inr (.inl h))))))))
    · exact .inl h
    · exact .inr (.inl h)
    · exact .inr (.inr (.inl h))
    · exact .inr (.inr (.inr (.inl h)))
    · exact .inr (.inr (.inr (.inr (.inr (.inr (.inl h))))))
    · exact .inr (.inr (.inr (.inr (.inr (.inr (.inr (.inl h)))))))
    · exact .inr (.inr (.inr (.inr (.inl h))))
    · exact .inr (.inr (.inr (.inr (.inr (.inl h)))))
    · exact .inr (.inr (.inr (.inr (.inr (.inr (.inr (.inr (.inr h))))))))
end
section
theorem rst_S9 : True := by w_top off; trivial
open LCg LCt
theorem Shape.names {P : Params} {L V dV : Addr} {nd : Nat} {k : Nat → Tok} {v : Nat → Value} {size kind : Int} {tb t3 tk tz : Tok} {oS oM : Obj} {lm : Addr} {nm : Nat} {bs : List Bool} {bound : Nat} {m m' : Str → Option Value} {nx : List (Addr × Obj)}
    (h : Shape P L V dV nd k v size kind tb t3 tk tz oS oM lm nm bs bound m nx) (hm : ∀ y, y ≠ Str.ofString "turn" → m' y = m y) : Shape P L V dV nd k v size kind tb t3 tk tz oS oM lm nm bs bound m' nx := by
  obtain ⟨chains, lf, nf, fvs, ffc, tf, lc, nc, rs, oT, oF, vT, vF, rest, h1, h2, h3, h4, h5, h6, h7, h8, h9, h10, h11, h12, h13, h14, h15, h16, h17⟩ := h
  exact ⟨chains, lf, nf, fvs, ffc, tf, lc, nc, rs, oT, oF, vT, vF, rest, h1, h2, h3, h4, h5, h6, h7, h8, h9, h10, h11, h12, h13, (hm _ (by decide)).trans h14, (hm _ (by decide)).trans h15, (hm _ (by decide)).trans h16, (hm _ (by decide)).trans h17⟩
set_option linter.all false in
theorem stageE (w : World) (mean : ExcName → Option Value) (mg mb : Str → Option Value) (l L a : Addr) (vs : List Value) (ns : List Int) (dp un : Nat) (gd : Option (List Code)) (cd : Value) (A₀ : Around) (h₀ : Heap) (m : Str → Option Value) (s : Shared) (nx : List (Addr × Obj)) (V dV : Addr) (nd : Nat) (k : Nat → Tok) (v : Nat → Value) (size kind : Int) (tb t3 tk tz : Tok) (oS oM : Obj) (lm : Addr) (nm : Nat) (bs : List Bool) (Q : Flow → Shared → Prop)
    (B : Below A₀ h₀ [] h₀) (F : Fr h₀ L s.heap m) (X : (Mine.hd.heap_1 w.params).In h₀) (N : News h₀ L s.heap nx)
    (T : Top Mine.hd.view_39 (looseW Mine.hd.view_39 [Str.ofString "PyFATException", Str.ofString "errno", Str.ofString "PyFat"]) mean mg mb h₀)
    (hS : Shape w.params L V dV nd k v size kind tb t3 tk tz oS oM lm nm bs 1 m nx) (dS : oS.data = .cell (some (.ref l))) (dM : oM.data = .cell (some (.ref lm)))
    (hl : h₀.IsList l vs.toArray) (hi : IntsAre vs ns) (hn : ns.length ≤ 63) (hk : Kind kind) (hbl : 4 ≤ bs.length ∧ bs.length ≤ 26) (hb1 : bs.getD (bs.length - 1) true = true) (hsz : 1 ≤ size ∧ size ≤ 40) (hgb : AllBare s.gens)
    (hdp : dp + 20 < recursionLimit) (hun : un + 200 < cLine)
    (hq : ∀ h' tk' gens' m' nx', AllBare gens' → Shape w.params L V dV nd k v size kind tb t3 tk tz oS oM lm nm bs 13 m' nx' → Fr h₀ L h' m' → News h₀ L h' nx' → Q .next { s with heap := h', toks := tk', gens := gens' }) :
    wpAny (model PySem.Challenge.rw_jr0029_01.row.prog w) (arTop dp un gd (envOfC (Str.ofString "law") lsc L a cd) []) (execs ((lbody.take 13).drop 12) (envOfC (Str.ofString "law") lsc L a cd)) Q (fun _ _ => False) s := by
  delta lbody lawPart
  dsimp only [List.take, List.drop]
  (repeat' ((fail_if_success (with_reducible show wpAny _ _ (exec (Stmt.For _ _ _ _ _) _) _ _ _)); (fail_if_success (with_reducible show wpAny _ _ (eval (Expr.ListComp _ _ _ _) _) _ _ _)); (fail_if_success (with_reducible show wpAny _ _ (pyIter (Value.ref _)) _ _ _)); (fail_if_success (with_reducible show wpAny _ _ (subscriptTail _ _ (Value.ref _) (Value.int _ _)) _ _ _)); (fail_if_success (with_reducible show wpAny _ _ (subscriptTail _ _ (Value.ref _) (Value.ref _)) _ _ _)); (fail_if_success (with_reducible show wpAny _ _ (compareOp _ (Value.ref _) (Value.ref _)) _ _ _)); (fail_if_success (with_reducible show LCg.CompSrc _ _ _ _ _ _ _ _ _ _ _ _ _ _)); (fail_if_success (with_reducible show LCt.CompSrcT _ _ _ _ _ _ _ _ _ _ _ _ _ _ _)); (fail_if_success (with_reducible show wpAny _ _ (binaryOp _ (Value.ref _) (Value.ref _)) _ _ _)); (fail_if_success (with_reducible show LCg.FinE _ _ _ _ _ _ _)); (fail_if_success (with_reducible show Turned _ _ _ _ _ _ _ _)); (first | (k_unfold; (try dsimp only)) | walk1 | (dsimp only; walk1) | ((dsimp only [List.nil_append, List.cons_append]); walk1) | (leave1; (try dsimp only)) | fail "no step")))
  refine wpAny_For ?_
  (repeat' ((fail_if_success (with_reducible show wpAny _ _ (exec (Stmt.For _ _ _ _ _) _) _ _ _)); (fail_if_success (with_reducible show wpAny _ _ (eval (Expr.ListComp _ _ _ _) _) _ _ _)); (fail_if_success (with_reducible show wpAny _ _ (pyIter (Value.ref _)) _ _ _)); (fail_if_success (with_reducible show wpAny _ _ (subscriptTail _ _ (Value.ref _) (Value.int _ _)) _ _ _)); (fail_if_success (with_reducible show wpAny _ _ (subscriptTail _ _ (Value.ref _) (Value.ref _)) _ _ _)); (fail_if_success (with_reducible show wpAny _ _ (compareOp _ (Value.ref _) (Value.ref _)) _ _ _)); (fail_if_success (with_reducible show LCg.CompSrc _ _ _ _ _ _ _ _ _ _ _ _ _ _)); (fail_if_success (with_reducible show LCt.CompSrcT _ _ _ _ _ _ _ _ _ _ _ _ _ _ _)); (fail_if_success (with_reducible show wpAny _ _ (binaryOp _ (Value.ref _) (Value.ref _)) _ _ _)); (fail_if_success (with_reducible show LCg.FinE _ _ _ _ _ _ _)); (fail_if_success (with_reducible show Turned _ _ _ _ _ _ _ _)); (first | (k_unfold; (try dsimp only)) | walk1 | (dsimp only; walk1) | ((dsimp only [List.nil_append, List.cons_append]); walk1) | (leave1; (try dsimp only)) | fail "no step")))
  all_goals first | exact Str.ofString "" | exact Value.none | exact (0 : Nat) | skip
  rename IsRange _ _ _ _ _ _ _ _ => hR
  rename Fr _ _ _ _ => F9
  rename News _ _ _ _ => N9
  refine iter_gR (n := 12) (fun i m₁ nx₁ => Shape w.params L V dV nd k v size kind tb t3 tk tz oS oM lm nm bs (1 + i) m₁ nx₁) (by kernel_rfl!) (by kernel_rfl!) rfl hR (by decide) (by decide) F9 N9 hS hgb ?turn ?done
  case turn =>
    intro i t m₁ nx₁ h tk1 gens1 I oI m₂ hi12 hoI hb1' hoff hS1 hx hy F2 N2
    refine wpAny_mono (E := fun _ _ => False) ?_ (fun _ _ h => h) (fun _ _ h => h.elim)
    refine turn_claim w mean mg mb l L a vs ns dp un gd cd A₀ h₀ m₂ _ nx₁ I oI V dV nd k v size kind tb t3 tk tz t i oS oM lm nm bs (1 + i) _ B F2 X N2 T (hS1.names hy) hoff hoI hx dS dM hl hi hn hi12 hk hbl hb1 hsz hb1' (by omega) hdp hun ?_
    intro h2 tk2 gens2 m3 nx2 hb2 hS2 hoff2 F3 N3
    exact ⟨_, _, _, _, _, rfl, hb2, F3, N3, hoff2, by rw [show 1 + (i + 1) = 1 + i + 1 by omega]; exact hS2⟩
  case done =>
    intro m₁ nx₁ h tk1 gens1 hb2 hS2 F2 N2
    exact wpAny_execs_nil (hq _ _ _ _ _ hb2 hS2 F2 N2)
end
section
theorem rst_S10 : True := by w_top off; trivial
open LCg LCt
set_option linter.all false in
theorem stageH (w : World) (mean : ExcName → Option Value) (mg mb : Str → Option Value) (L a : Addr) (dp un : Nat) (gd : Option (List Code)) (cd : Value) (A₀ : Around) (h₀ : Heap) (m : Str → Option Value) (s : Shared) (rest : List (Addr × Obj)) (V dV lf lb : Addr) (nd nf nb : Nat) (k : Nat → Tok) (v : Nat → Value) (bpc : Value) (ffc kind x : Int) (t2 t3 : Tok) (fat : List Int) (fvs bvs : List Value) (Q : Flow → Shared → Prop)
    (B : Below A₀ h₀ [] h₀) (F : Fr h₀ L s.heap m) (X : (Mine.hd.heap_1 w.params).In h₀) (N : News h₀ L s.heap ((V, instObj 316 dV) :: (dV, dictOf (volEs w.params k v bpc (.int ffc t2) (.int kind t3) (.ref lf) (.bool true) (.bool false)) nd) :: (lf, listOf fvs.toArray nf) :: rest))
    (T : Top Mine.hd.view_39 (looseW Mine.hd.view_39 [Str.ofString "PyFATException", Str.ofString "errno", Str.ofString "PyFat"]) mean mg mb h₀)
    (hV1 : @Ne Nat V dV) (hV2 : @Ne Nat V lf) (hV3 : @Ne Nat dV lf) (hr1 : ∀ p ∈ rest, p.1 ≠ V) (hr2 : ∀ p ∈ rest, p.1 ≠ dV) (hr3 : ∀ p ∈ rest, p.1 ≠ lf)
    (mv : m (Str.ofString "volume") = some (.ref V)) (mbr : m (Str.ofString "broken") = some (.ref lb)) (mlb : (lb, listOf bvs.toArray nb) ∈ rest) (hbv : IntsAre bvs fat)
    (hfat : IntsAre fvs fat) (hk : Kind kind) (hlen : 4 ≤ fat.length ∧ fat.length ≤ 60) (hf3 : fat.getD 3 0 = 2) (hf2 : fat.getD 2 0 = x) (hx : x = 0 ∨ x = badv kind ∨ x = 1) (hffc : 0 ≤ ffc ∧ ffc < 1000)
    (hgb : AllBare s.gens) (hdp : dp + 20 < recursionLimit) (hun : un + 200 < cLine)
    (hq : ∀ h' tk' gens' ffc' t', AllBare gens' → Fr h₀ L h' m → News h₀ L h' ((V, instObj 316 dV) :: (dV, dictOf (volEs w.params k v bpc (.int ffc' t') (.int kind t3) (.ref lf) (.bool true) (.bool false)) nd) :: (lf, listOf fvs.toArray nf) :: rest) → Q .next { s with heap := h', toks := tk', gens := gens' }) :
    wpAny (model PySem.Challenge.rw_jr0029_01.row.prog w) (arTop dp un gd (envOfC (Str.ofString "law") lsc L a cd) []) (execs ((lbody.take 18).drop 17) (envOfC (Str.ofString "law") lsc L a cd)) Q (fun _ _ => False) s := by
  delta lbody lawPart
  dsimp only [List.take, List.drop]
  (repeat' ((fail_if_success (with_reducible show wpAny _ _ (call (Value.ref 362) _) _ _ _)); (fail_if_success (with_reducible show wpAny _ _ (call (Value.ref 369) _) _ _ _)); (fail_if_success (with_reducible show wpAny _ _ (exec (Stmt.For _ _ _ _ _) _) _ _ _)); (fail_if_success (with_reducible show wpAny _ _ (eval (Expr.ListComp _ _ _ _) _) _ _ _)); (fail_if_success (with_reducible show wpAny _ _ (pyIter (Value.ref _)) _ _ _)); (fail_if_success (with_reducible show wpAny _ _ (subscriptTail _ _ (Value.ref _) (Value.int _ _)) _ _ _)); (fail_if_success (with_reducible show wpAny _ _ (subscriptTail _ _ (Value.ref _) (Value.ref _)) _ _ _)); (fail_if_success (with_reducible show wpAny _ _ (compareOp _ (Value.ref _) (Value.ref _)) _ _ _)); (fail_if_success (with_reducible show LCg.CompSrc _ _ _ _ _ _ _ _ _ _ _ _ _ _)); (fail_if_success (with_reducible show LCt.CompSrcT _ _ _ _ _ _ _ _ _ _ _ _ _ _ _)); (fail_if_success (with_reducible show wpAny _ _ (binaryOp _ (Value.ref _) (Value.ref _)) _ _ _)); (fail_if_success (with_reducible show LCg.FinE _ _ _ _ _ _ _)); (fail_if_success (with_reducible show Turned _ _ _ _ _ _ _ _)); (first | (k_unfold; (try dsimp only)) | walk1 | (dsimp only; walk1) | ((dsimp only [List.nil_append, List.cons_append]); walk1) | (leave1; (try dsimp only)) | fail "no step")))
  all_goals first | exact Str.ofString "" | exact Value.none | exact (0 : Nat) | skip
  refine shut_claim w mean mg mb _ (fun f u => (V, instObj 316 dV) :: (dV, dictOf (volEs w.params k v bpc (.int f u) (.int kind t3) (.ref lf) (.bool true) (.bool false)) nd) :: (lf, listOf fvs.toArray nf) :: rest) V dV nd k v _ _ _ _ _ _ _ _ (fun t => .none) dp un gd _ A₀ h₀ h₀ L _ _ _ _ B (by k_asm) X (by k_asm) T rfl rfl (by k_mem) (by k_mem) (by omega) (by omega) ?hcall ?hho ?heq ?hret
  case hcall =>
    intro env1 h1 L1 m1 s1 tw1 Q1 E1 B1 F1 X1 N1 T1 hcs hfr hg hraise
    refine free_broken w mean mg mb rest V dV lf nd nf k v bpc ffc kind x t2 t3 _ fat fvs _ _ _ _ _ _ _ _ _ _ _ _ _ B1 F1 X1 X N1 T1 hcs hfr hV1 hV2 hV3 hr1 hr2 hr3 hfat hk hlen hf3 hf2 hx hffc (by rw [hg]; exact hgb) (by omega) (by omega) ?_
    intro g e h' tk' gens' ffc' t' hb FG fl
    exact hraise g e h' tk' gens' 0 ffc' t' hb FG fl
  case hho => exact fun t => rfl
  case heq =>
    intro t A Q E s h
    exact EqNone.eq_none_none h
  case hret =>
    intro h' tk' gens' f u hb' F' N'
    (repeat' ((fail_if_success (with_reducible show wpAny _ _ (exec (Stmt.For _ _ _ _ _) _) _ _ _)); (fail_if_success (with_reducible show wpAny _ _ (eval (Expr.ListComp _ _ _ _) _) _ _ _)); (fail_if_success (with_reducible show wpAny _ _ (pyIter (Value.ref _)) _ _ _)); (fail_if_success (with_reducible show wpAny _ _ (subscriptTail _ _ (Value.ref _) (Value.int _ _)) _ _ _)); (fail_if_success (with_reducible show wpAny _ _ (subscriptTail _ _ (Value.ref _) (Value.ref _)) _ _ _)); (fail_if_success (with_reducible show wpAny _ _ (compareOp _ (Value.ref _) (Value.ref _)) _ _ _)); (fail_if_success (with_reducible show LCg.CompSrc _ _ _ _ _ _ _ _ _ _ _ _ _ _)); (fail_if_success (with_reducible show LCt.CompSrcT _ _ _ _ _ _ _ _ _ _ _ _ _ _ _)); (fail_if_success (with_reducible show wpAny _ _ (binaryOp _ (Value.ref _) (Value.ref _)) _ _ _)); (fail_if_success (with_reducible show LCg.FinE _ _ _ _ _ _ _)); (fail_if_success (with_reducible show Turned _ _ _ _ _ _ _ _)); (first | (k_unfold; (try dsimp only)) | walk1 | (dsimp only; walk1) | ((dsimp only [List.nil_append, List.cons_append]); walk1) | (leave1; (try dsimp only)) | fail "no step")))
    all_goals first | exact Str.ofString "" | exact Value.none | exact (0 : Nat) | skip
    refine ne_intsK (vs := fvs) (us := bvs) (by kmk_list) hfat (by kmk_list) hbv (by first | ktr_room | (show un + 64 < cLine; omega) | (show un + 1 + 64 < cLine; omega)) ?_
    rw [decide_eq_true (rfl : fat = fat), Bool.not_true]
    (repeat' ((fail_if_success (with_reducible show wpAny _ _ (exec (Stmt.For _ _ _ _ _) _) _ _ _)); (fail_if_success (with_reducible show wpAny _ _ (eval (Expr.ListComp _ _ _ _) _) _ _ _)); (fail_if_success (with_reducible show wpAny _ _ (pyIter (Value.ref _)) _ _ _)); (fail_if_success (with_reducible show wpAny _ _ (subscriptTail _ _ (Value.ref _) (Value.int _ _)) _ _ _)); (fail_if_success (with_reducible show wpAny _ _ (subscriptTail _ _ (Value.ref _) (Value.ref _)) _ _ _)); (fail_if_success (with_reducible show wpAny _ _ (compareOp _ (Value.ref _) (Value.ref _)) _ _ _)); (fail_if_success (with_reducible show LCg.CompSrc _ _ _ _ _ _ _ _ _ _ _ _ _ _)); (fail_if_success (with_reducible show LCt.CompSrcT _ _ _ _ _ _ _ _ _ _ _ _ _ _ _)); (fail_if_success (with_reducible show wpAny _ _ (binaryOp _ (Value.ref _) (Value.ref _)) _ _ _)); (fail_if_success (with_reducible show LCg.FinE _ _ _ _ _ _ _)); (fail_if_success (with_reducible show Turned _ _ _ _ _ _ _ _)); (first | (k_unfold; (try dsimp only)) | walk1 | (dsimp only; walk1) | ((dsimp only [List.nil_append, List.cons_append]); walk1) | (leave1; (try dsimp only)) | fail "no step")))
    exact hq _ _ _ _ _ hb' F' N'
end
section
theorem rst_S11 : True := by w_top off; trivial
set_option linter.all false in
theorem stageI (w : World) (mean : ExcName → Option Value) (mg mb : Str → Option Value) (L a : Addr) (dp un : Nat) (gd : Option (List Code)) (cd : Value) (A₀ : Around) (h₀ : Heap) (m : Str → Option Value) (s : Shared) (rest : List (Addr × Obj)) (V dV : Addr) (nd : Nat) (k : Nat → Tok) (v : Nat → Value) (bpc ffc fat0 ini ro : Value) (kind : Int) (t1 t3 : Tok) (oM : Obj) (lm lc : Addr) (nm nc : Nat) (bs : List Bool) (rs : List Value) (chains : List (List Int)) (Q : Flow → Shared → Prop) (E : Value → Shared → Prop)
    (B : Below A₀ h₀ [] h₀) (F : Fr h₀ L s.heap m) (X : (Mine.hd.heap_1 w.params).In h₀) (N : News h₀ L s.heap ((V, instObj 316 dV) :: (dV, dictOf (volEs w.params k v bpc ffc (.int kind t3) fat0 ini ro) nd) :: rest))
    (T : Top Mine.hd.view_39 (looseW Mine.hd.view_39 [Str.ofString "PyFATException", Str.ofString "errno", Str.ofString "PyFat"]) mean mg mb h₀)
    (hV1 : @Ne Nat V dV) (hr1 : ∀ p ∈ rest, p.1 ≠ V) (hr2 : ∀ p ∈ rest, p.1 ≠ dV)
    (mk : m (Str.ofString "kind") = some (.int kind t1)) (mv : m (Str.ofString "volume") = some (.ref V)) (mc : m (Str.ofString "chains") = some (.ref lc))
    (mM : (L + 1 + 1, oM) ∈ rest) (dM : oM.data = .cell (some (.ref lm))) (ml : (lm, listOf (bs.map Value.bool).toArray nm) ∈ rest) (mlc : (lc, listOf rs.toArray nc) ∈ rest) (hch : ChsIn rest rs chains)
    (hk : Kind kind) (hbl : bs.length ≤ 40) (hin : ∀ c ∈ chains, c.length ≤ 40 ∧ ∀ z ∈ c, 0 ≤ z ∧ z < (bs.length : Int) + 2)
    (hdp : dp + 20 < recursionLimit) (hun : un + 200 < cLine)
    (hq : ∀ r us n h' tk', (∀ p ∈ (V, instObj 316 dV) :: (dV, dictOf (volEs w.params k v bpc ffc (.int kind t3) fat0 ini ro) nd) :: rest, p.1 < r) → Fr h₀ L h' m → IntsAre us (tableOf kind bs chains) →
      News h₀ L h' ((r, listOf (List.toArray us) n) :: (V, instObj 316 dV) :: (dV, dictOf (volEs w.params k v bpc ffc (.int kind t3) (.ref r) ini (.bool true)) nd) :: rest) → Q .next { s with heap := h', toks := tk' }) :
    wpAny (model PySem.Challenge.rw_jr0029_01.row.prog w) (arTop dp un gd (envOfC (Str.ofString "law") lsc L a cd) []) (execs ((lbody.take 20).drop 18) (envOfC (Str.ofString "law") lsc L a cd)) Q E s := by
  delta lbody lawPart
  dsimp only [List.take, List.drop]
  (repeat' ((fail_if_success (with_reducible show wpAny _ _ (exec (Stmt.For _ _ _ _ _) _) _ _ _)); (fail_if_success (with_reducible show wpAny _ _ (eval (Expr.ListComp _ _ _ _) _) _ _ _)); (fail_if_success (with_reducible show wpAny _ _ (pyIter (Value.ref _)) _ _ _)); (fail_if_success (with_reducible show wpAny _ _ (subscriptTail _ _ (Value.ref _) (Value.int _ _)) _ _ _)); (fail_if_success (with_reducible show wpAny _ _ (subscriptTail _ _ (Value.ref _) (Value.ref _)) _ _ _)); (fail_if_success (with_reducible show wpAny _ _ (compareOp _ (Value.ref _) (Value.ref _)) _ _ _)); (fail_if_success (with_reducible show LCg.CompSrc _ _ _ _ _ _ _ _ _ _ _ _ _ _)); (fail_if_success (with_reducible show LCt.CompSrcT _ _ _ _ _ _ _ _ _ _ _ _ _ _ _)); (fail_if_success (with_reducible show wpAny _ _ (binaryOp _ (Value.ref _) (Value.ref _)) _ _ _)); (fail_if_success (with_reducible show LCg.FinE _ _ _ _ _ _ _)); (fail_if_success (with_reducible show Turned _ _ _ _ _ _ _ _)); (first | (k_unfold; (try dsimp only)) | walk1 | (dsimp only; walk1) | ((dsimp only [List.nil_append, List.cons_append]); walk1) | (leave1; (try dsimp only)) | fail "no step")))
  all_goals first | exact Str.ofString "" | exact Value.none | exact (0 : Nat) | skip
  rename (∀ (p : Addr × Obj), p ∈ _ → p.fst < _) => lt9
  have lt8 := lt9
  have hA := lt9 _ (.head _)
  have hB := lt9 _ (.tail _ (.head _))
  dsimp only at hA hB
  have hA1 : @Ne Nat _ V := Nat.ne_of_gt hA
  have hB1 : @Ne Nat _ dV := Nat.ne_of_gt hB
  (repeat' ((fail_if_success (with_reducible show wpAny _ _ (exec (Stmt.For _ _ _ _ _) _) _ _ _)); (fail_if_success (with_reducible show wpAny _ _ (eval (Expr.ListComp _ _ _ _) _) _ _ _)); (fail_if_success (with_reducible show wpAny _ _ (pyIter (Value.ref _)) _ _ _)); (fail_if_success (with_reducible show wpAny _ _ (subscriptTail _ _ (Value.ref _) (Value.int _ _)) _ _ _)); (fail_if_success (with_reducible show wpAny _ _ (subscriptTail _ _ (Value.ref _) (Value.ref _)) _ _ _)); (fail_if_success (with_reducible show wpAny _ _ (compareOp _ (Value.ref _) (Value.ref _)) _ _ _)); (fail_if_success (with_reducible show LCg.CompSrc _ _ _ _ _ _ _ _ _ _ _ _ _ _)); (fail_if_success (with_reducible show LCt.CompSrcT _ _ _ _ _ _ _ _ _ _ _ _ _ _ _)); (fail_if_success (with_reducible show wpAny _ _ (binaryOp _ (Value.ref _) (Value.ref _)) _ _ _)); (fail_if_success (with_reducible show LCg.FinE _ _ _ _ _ _ _)); (fail_if_success (with_reducible show Turned _ _ _ _ _ _ _ _)); (first | (k_unfold; (try dsimp only)) | walk1 | (dsimp only; walk1) | ((dsimp only [List.nil_append, List.cons_append]); walk1) | (leave1; (try dsimp only)) | fail "no step")))
  all_goals first | exact Str.ofString "" | exact Value.none | exact (0 : Nat) | skip
  rename Fr _ _ _ _ => F9
  rename News _ _ _ _ => N9
  exact hq _ _ _ _ _ lt8 F9 (by assumption) N9
end
section
theorem rst_S12 : True := by w_top off; trivial
open LCg LCt
theorem datInts {news : List (Addr × Obj)} {vs : List Value} {c : List Int} (h : IntsAre vs c) : DatAll news vs (c.map PySem.W.Dat.int) := by
  induction h with
  | nil => exact .nil
  | cons n t _ ih => exact .cons (.int _ _) ih
theorem datChs {news : List (Addr × Obj)} {rs : List Value} {cs : List (List Int)} (h : ChsIn news rs cs) : DatAll news rs (cs.map fun c => PySem.W.Dat.list (c.map PySem.W.Dat.int)) := by
  induction h with
  | nil => exact .nil
  | cons hm hi _ ih => exact .cons (.list hm (datInts hi)) ih
theorem datOk (c : List Int) : ∀ d ∈ c.map PySem.W.Dat.int, kqdOk 7 d = true := by
  intro d hd
  obtain ⟨z, _, rfl⟩ := List.mem_map.mp hd
  rfl
theorem ne_chains {prog : Program} {w : World} {A : Around} {E : Value → Shared → Prop} {s : Shared} {h₀ : Heap} {L lc b : Addr} {news : List (Addr × Obj)} {rs : List Value} {cs : List (List Int)} {nc n : Nat} {Q : Value → Shared → Prop} (N : News h₀ L s.heap news)
    (mlc : (lc, listOf rs.toArray nc) ∈ news) (hch : ChsIn news rs cs) (mb : (b, listOf #[] n) ∈ news) (hu : A.units + 64 < cLine) (h : Q (.bool (!decide (cs = []))) s) : wpAny (model prog w) A (compareOp .NotEq (.ref lc) (.ref b)) Q E s := by
  refine kqd_ne (ys := []) (kb := n) (es := []) N mlc rfl rfl (datChs hch) (fun p hp => hp) mb rfl rfl (DatAll.nil (news := news)) (fun p hp => hp) ?_ (fun d hd => nomatch hd) hu ?_
  · intro d hd
    obtain ⟨c, _, rfl⟩ := List.mem_map.mp hd
    simp only [kqdOk, List.all_eq_true]
    exact datOk c
  · cases cs with
    | nil => rw [decide_eq_true (rfl : ([] : List (List Int)) = [])] at h; rw [decide_eq_true (show List.map _ ([] : List (List Int)) = [] from rfl)]; exact h
    | cons c cs => rw [decide_eq_false (fun e => nomatch e)] at h; rw [decide_eq_false (fun e => nomatch e)]; exact h
set_option linter.all false in
theorem stageJ (w : World) (mean : ExcName → Option Value) (mg mb : Str → Option Value) (L a : Addr) (dp un : Nat) (gd : Option (List Code)) (cd : Value) (A₀ : Around) (h₀ : Heap) (m : Str → Option Value) (s : Shared) (news : List (Addr × Obj)) (lc : Addr) (nc : Nat) (rs : List Value) (chains : List (List Int)) (Q : Flow → Shared → Prop)
    (B : Below A₀ h₀ [] h₀) (F : Fr h₀ L s.heap m) (X : (Mine.hd.heap_1 w.params).In h₀) (N : News h₀ L s.heap news)
    (T : Top Mine.hd.view_39 (looseW Mine.hd.view_39 [Str.ofString "PyFATException", Str.ofString "errno", Str.ofString "PyFat"]) mean mg mb h₀)
    (mc : m (Str.ofString "chains") = some (.ref lc)) (mlc : (lc, listOf rs.toArray nc) ∈ news) (hch : ChsIn news rs chains) (hne : ∀ c ∈ chains, c ≠ [])
    (hdp : dp + 20 < recursionLimit) (hun : un + 200 < cLine)
    (hq : ∀ fv h' tk', Fr h₀ L h' (fun y => if y = Str.ofString "first" then some fv else m y) → News h₀ L h' news → Q .next { s with heap := h', toks := tk' }) :
    wpAny (model PySem.Challenge.rw_jr0029_01.row.prog w) (arTop dp un gd (envOfC (Str.ofString "law") lsc L a cd) []) (execs ((lbody.take 21).drop 20) (envOfC (Str.ofString "law") lsc L a cd)) Q (fun _ _ => False) s := by
  delta lbody lawPart
  dsimp only [List.take, List.drop]
  (repeat' ((fail_if_success (with_reducible show wpAny _ _ (exec (Stmt.For _ _ _ _ _) _) _ _ _)); (fail_if_success (with_reducible show wpAny _ _ (eval (Expr.ListComp _ _ _ _) _) _ _ _)); (fail_if_success (with_reducible show wpAny _ _ (pyIter (Value.ref _)) _ _ _)); (fail_if_success (with_reducible show wpAny _ _ (subscriptTail _ _ (Value.ref _) (Value.int _ _)) _ _ _)); (fail_if_success (with_reducible show wpAny _ _ (subscriptTail _ _ (Value.ref _) (Value.ref _)) _ _ _)); (fail_if_success (with_reducible show wpAny _ _ (compareOp _ (Value.ref _) (Value.ref _)) _ _ _)); (fail_if_success (with_reducible show LCg.CompSrc _ _ _ _ _ _ _ _ _ _ _ _ _ _)); (fail_if_success (with_reducible show LCt.CompSrcT _ _ _ _ _ _ _ _ _ _ _ _ _ _ _)); (fail_if_success (with_reducible show wpAny _ _ (binaryOp _ (Value.ref _) (Value.ref _)) _ _ _)); (fail_if_success (with_reducible show LCg.FinE _ _ _ _ _ _ _)); (fail_if_success (with_reducible show Turned _ _ _ _ _ _ _ _)); (first | (k_unfold; (try dsimp only)) | walk1 | (dsimp only; walk1) | ((dsimp only [List.nil_append, List.cons_append]); walk1) | (leave1; (try dsimp only)) | fail "no step")))
  all_goals first | exact Str.ofString "" | exact Value.none | exact (0 : Nat) | skip
  refine ne_chains (by k_asm) (by k_mem) (hch.mono fun q hq => .tail _ hq) (by k_mem) (by first | ktr_room | (show un + 64 < cLine; omega) | (show un + 1 + 64 < cLine; omega)) ?_
  cases hch with
  | nil =>
    rw [decide_eq_true (rfl : ([] : List (List Int)) = []), Bool.not_true]
    (repeat' ((fail_if_success (with_reducible show wpAny _ _ (exec (Stmt.For _ _ _ _ _) _) _ _ _)); (fail_if_success (with_reducible show wpAny _ _ (eval (Expr.ListComp _ _ _ _) _) _ _ _)); (fail_if_success (with_reducible show wpAny _ _ (pyIter (Value.ref _)) _ _ _)); (fail_if_success (with_reducible show wpAny _ _ (subscriptTail _ _ (Value.ref _) (Value.int _ _)) _ _ _)); (fail_if_success (with_reducible show wpAny _ _ (subscriptTail _ _ (Value.ref _) (Value.ref _)) _ _ _)); (fail_if_success (with_reducible show wpAny _ _ (compareOp _ (Value.ref _) (Value.ref _)) _ _ _)); (fail_if_success (with_reducible show LCg.CompSrc _ _ _ _ _ _ _ _ _ _ _ _ _ _)); (fail_if_success (with_reducible show LCt.CompSrcT _ _ _ _ _ _ _ _ _ _ _ _ _ _ _)); (fail_if_success (with_reducible show wpAny _ _ (binaryOp _ (Value.ref _) (Value.ref _)) _ _ _)); (fail_if_success (with_reducible show LCg.FinE _ _ _ _ _ _ _)); (fail_if_success (with_reducible show Turned _ _ _ _ _ _ _ _)); (first | (k_unfold; (try dsimp only)) | walk1 | (dsimp only; walk1) | ((dsimp only [List.nil_append, List.cons_append]); walk1) | (leave1; (try dsimp only)) | fail "no step")))
    rename Fr _ _ _ _ => F9
    rename News _ _ _ _ => N9
    exact hq _ _ _ F9 (fun q hq => N9 q (.tail _ hq))
  | cons hm hi hr =>
    rename_i ac nac vs c rs' cs'
    have hc0 : 0 < c.length := List.length_pos_iff.mpr (hne c (.head _))
    rw [decide_eq_false (fun e => nomatch e), Bool.not_false]
    (repeat' ((fail_if_success (with_reducible show wpAny _ _ (exec (Stmt.For _ _ _ _ _) _) _ _ _)); (fail_if_success (with_reducible show wpAny _ _ (eval (Expr.ListComp _ _ _ _) _) _ _ _)); (fail_if_success (with_reducible show wpAny _ _ (pyIter (Value.ref _)) _ _ _)); (fail_if_success (with_reducible show wpAny _ _ (subscriptTail _ _ (Value.ref _) (Value.int _ _)) _ _ _)); (fail_if_success (with_reducible show wpAny _ _ (subscriptTail _ _ (Value.ref _) (Value.ref _)) _ _ _)); (fail_if_success (with_reducible show wpAny _ _ (compareOp _ (Value.ref _) (Value.ref _)) _ _ _)); (fail_if_success (with_reducible show LCg.CompSrc _ _ _ _ _ _ _ _ _ _ _ _ _ _)); (fail_if_success (with_reducible show LCt.CompSrcT _ _ _ _ _ _ _ _ _ _ _ _ _ _ _)); (fail_if_success (with_reducible show wpAny _ _ (binaryOp _ (Value.ref _) (Value.ref _)) _ _ _)); (fail_if_success (with_reducible show LCg.FinE _ _ _ _ _ _ _)); (fail_if_success (with_reducible show Turned _ _ _ _ _ _ _ _)); (first | (k_unfold; (try dsimp only)) | walk1 | (dsimp only; walk1) | ((dsimp only [List.nil_append, List.cons_append]); walk1) | (leave1; (try dsimp only)) | fail "no step")))
    all_goals first | exact Str.ofString "" | exact Value.none | exact (0 : Nat) | skip
    refine kim_list (l := .ref ac :: rs') (n := nc) (x := .ref ac) (by k_asm) (by k_mem) rfl rfl (by decide) (by decide) rfl ?_
    walk1
    refine sub_temp (n := Str.ofString "chains") (p := ⟨0, 0, 0, 0⟩) ?_
    refine ksa_sub (by k_asm) (by k_mem) hi (by decide) (by omega) (by decide) ?_ (by with_unfolding_all rfl)
    intro t9
    (repeat' ((fail_if_success (with_reducible show wpAny _ _ (exec (Stmt.For _ _ _ _ _) _) _ _ _)); (fail_if_success (with_reducible show wpAny _ _ (eval (Expr.ListComp _ _ _ _) _) _ _ _)); (fail_if_success (with_reducible show wpAny _ _ (pyIter (Value.ref _)) _ _ _)); (fail_if_success (with_reducible show wpAny _ _ (subscriptTail _ _ (Value.ref _) (Value.int _ _)) _ _ _)); (fail_if_success (with_reducible show wpAny _ _ (subscriptTail _ _ (Value.ref _) (Value.ref _)) _ _ _)); (fail_if_success (with_reducible show wpAny _ _ (compareOp _ (Value.ref _) (Value.ref _)) _ _ _)); (fail_if_success (with_reducible show LCg.CompSrc _ _ _ _ _ _ _ _ _ _ _ _ _ _)); (fail_if_success (with_reducible show LCt.CompSrcT _ _ _ _ _ _ _ _ _ _ _ _ _ _ _)); (fail_if_success (with_reducible show wpAny _ _ (binaryOp _ (Value.ref _) (Value.ref _)) _ _ _)); (fail_if_success (with_reducible show LCg.FinE _ _ _ _ _ _ _)); (fail_if_success (with_reducible show Turned _ _ _ _ _ _ _ _)); (first | (k_unfold; (try dsimp only)) | walk1 | (dsimp only; walk1) | ((dsimp only [List.nil_append, List.cons_append]); walk1) | (leave1; (try dsimp only)) | fail "no step")))
    rename Fr _ _ _ _ => F9
    rename News _ _ _ _ => N9
    exact hq _ _ _ F9 (fun q hq => N9 q (.tail _ hq))
end
section
theorem rst_S13 : True := by w_top off; trivial
open LCg LCt
set_option linter.all false in
theorem stageK (w : World) (mean : ExcName → Option Value) (mg mb : Str → Option Value) (L a : Addr) (dp un : Nat) (gd : Option (List Code)) (cd : Value) (A₀ : Around) (h₀ : Heap) (m : Str → Option Value) (s : Shared) (news : List (Addr × Obj)) (V dV : Addr) (nd : Nat) (k : Nat → Tok) (v : Nat → Value) (bpc ffc kind fat fv : Value) (Q : Flow → Shared → Prop)
    (B : Below A₀ h₀ [] h₀) (F : Fr h₀ L s.heap m) (X : (Mine.hd.heap_1 w.params).In h₀) (N : News h₀ L s.heap news)
    (T : Top Mine.hd.view_39 (looseW Mine.hd.view_39 [Str.ofString "PyFATException", Str.ofString "errno", Str.ofString "PyFat"]) mean mg mb h₀)
    (mv : m (Str.ofString "volume") = some (.ref V)) (mf : m (Str.ofString "first") = some fv) (mV : (V, instObj 316 dV) ∈ news) (mdV : (dV, dictOf (volEs w.params k v bpc ffc kind fat (.bool true) (.bool true)) nd) ∈ news)
    (hgb : AllBare s.gens) (hdp : dp + 20 < recursionLimit) (hun : un + 200 < cLine)
    (hq : ∀ h' tk' gens', AllBare gens' → Fr h₀ L h' m → News h₀ L h' news → Q .next { s with heap := h', toks := tk', gens := gens' }) :
    wpAny (model PySem.Challenge.rw_jr0029_01.row.prog w) (arTop dp un gd (envOfC (Str.ofString "law") lsc L a cd) []) (execs ((lbody.take 22).drop 21) (envOfC (Str.ofString "law") lsc L a cd)) Q (fun _ _ => False) s := by
  delta lbody lawPart
  dsimp only [List.take, List.drop]
  (repeat' ((fail_if_success (with_reducible show wpAny _ _ (call (Value.ref 362) _) _ _ _)); (fail_if_success (with_reducible show wpAny _ _ (call (Value.ref 369) _) _ _ _)); (fail_if_success (with_reducible show wpAny _ _ (exec (Stmt.For _ _ _ _ _) _) _ _ _)); (fail_if_success (with_reducible show wpAny _ _ (eval (Expr.ListComp _ _ _ _) _) _ _ _)); (fail_if_success (with_reducible show wpAny _ _ (pyIter (Value.ref _)) _ _ _)); (fail_if_success (with_reducible show wpAny _ _ (subscriptTail _ _ (Value.ref _) (Value.int _ _)) _ _ _)); (fail_if_success (with_reducible show wpAny _ _ (subscriptTail _ _ (Value.ref _) (Value.ref _)) _ _ _)); (fail_if_success (with_reducible show wpAny _ _ (compareOp _ (Value.ref _) (Value.ref _)) _ _ _)); (fail_if_success (with_reducible show LCg.CompSrc _ _ _ _ _ _ _ _ _ _ _ _ _ _)); (fail_if_success (with_reducible show LCt.CompSrcT _ _ _ _ _ _ _ _ _ _ _ _ _ _ _)); (fail_if_success (with_reducible show wpAny _ _ (binaryOp _ (Value.ref _) (Value.ref _)) _ _ _)); (fail_if_success (with_reducible show LCg.FinE _ _ _ _ _ _ _)); (fail_if_success (with_reducible show Turned _ _ _ _ _ _ _ _)); (first | (k_unfold; (try dsimp only)) | walk1 | (dsimp only; walk1) | ((dsimp only [List.nil_append, List.cons_append]); walk1) | (leave1; (try dsimp only)) | fail "no step")))
  all_goals first | exact Str.ofString "" | exact Value.none | exact (0 : Nat) | skip
  refine refused_claim w mean mg mb _ news V dV nd k v _ _ _ _ _ _ _ _ (fun t => .int 30 t) dp un gd _ A₀ h₀ h₀ L _ _ _ _ B (by k_asm) X (by k_asm) T rfl rfl (by k_mem) (by k_mem) (by omega) (by omega) ?hcall ?hho ?heq ?hret
  case hcall =>
    intro env1 h1 L1 m1 s1 tw1 Q1 E1 B1 F1 X1 N1 T1 hcs hfr hg hraise
    refine alloc_ro w mean mg mb news V dV nd k v bpc ffc kind fat (.bool true) _ _ _ _ _ _ _ _ _ _ _ _ _ _ B1 F1 X1 N1 T1 hcs hfr mV mdV (by omega) (by omega) ?_
    intro g e h' tk' t FG fl
    exact hraise g e h' tk' _ t (by rw [hg]; exact hgb) FG fl
  case hho => exact fun t => rfl
  case heq =>
    intro t A Q E s h
    refine eq_int ?_
    exact h
  case hret =>
    intro h' tk' gens' hb' F' N'
    clear F N
    (repeat' ((fail_if_success (with_reducible show wpAny _ _ (call (Value.ref 362) _) _ _ _)); (fail_if_success (with_reducible show wpAny _ _ (call (Value.ref 369) _) _ _ _)); (fail_if_success (with_reducible show wpAny _ _ (exec (Stmt.For _ _ _ _ _) _) _ _ _)); (fail_if_success (with_reducible show wpAny _ _ (eval (Expr.ListComp _ _ _ _) _) _ _ _)); (fail_if_success (with_reducible show wpAny _ _ (pyIter (Value.ref _)) _ _ _)); (fail_if_success (with_reducible show wpAny _ _ (subscriptTail _ _ (Value.ref _) (Value.int _ _)) _ _ _)); (fail_if_success (with_reducible show wpAny _ _ (subscriptTail _ _ (Value.ref _) (Value.ref _)) _ _ _)); (fail_if_success (with_reducible show wpAny _ _ (compareOp _ (Value.ref _) (Value.ref _)) _ _ _)); (fail_if_success (with_reducible show LCg.CompSrc _ _ _ _ _ _ _ _ _ _ _ _ _ _)); (fail_if_success (with_reducible show LCt.CompSrcT _ _ _ _ _ _ _ _ _ _ _ _ _ _ _)); (fail_if_success (with_reducible show wpAny _ _ (binaryOp _ (Value.ref _) (Value.ref _)) _ _ _)); (fail_if_success (with_reducible show LCg.FinE _ _ _ _ _ _ _)); (fail_if_success (with_reducible show Turned _ _ _ _ _ _ _ _)); (first | (k_unfold; (try dsimp only)) | walk1 | (dsimp only; walk1) | ((dsimp only [List.nil_append, List.cons_append]); walk1) | (leave1; (try dsimp only)) | fail "no step")))
    all_goals first | exact Str.ofString "" | exact Value.none | exact (0 : Nat) | skip
    refine shut_claim w mean mg mb _ (fun _ _ => news) V dV nd k v _ _ _ _ _ _ _ _ (fun t => .int 30 t) dp un gd _ A₀ h₀ h₀ L _ _ _ _ B (by k_asm) X (by k_asm) T rfl rfl (by k_mem) (by k_mem) (by omega) (by omega) ?hcall2 ?hho2 ?heq2 ?hret2
    case hcall2 =>
      intro env1 h1 L1 m1 s1 tw1 Q1 E1 B1 F1 X1 N1 T1 hcs hfr hg hraise
      refine free_ro w mean mg mb news V dV nd k v bpc ffc kind fat (.bool true) _ _ _ _ _ _ _ _ _ _ _ _ _ _ B1 F1 X1 N1 T1 hcs hfr mV mdV (by omega) (by omega) ?_
      intro g e h' tk' t FG fl
      exact hraise g e h' tk' _ t 0 0 (by rw [hg]; exact hb') FG fl
    case hho2 => exact fun t => rfl
    case heq2 =>
      intro t A Q E s h
      refine eq_int ?_
      exact h
    case hret2 =>
      intro h2 tk2 gens2 _ _ hb2 F2 N2
      (repeat' ((fail_if_success (with_reducible show wpAny _ _ (exec (Stmt.For _ _ _ _ _) _) _ _ _)); (fail_if_success (with_reducible show wpAny _ _ (eval (Expr.ListComp _ _ _ _) _) _ _ _)); (fail_if_success (with_reducible show wpAny _ _ (pyIter (Value.ref _)) _ _ _)); (fail_if_success (with_reducible show wpAny _ _ (subscriptTail _ _ (Value.ref _) (Value.int _ _)) _ _ _)); (fail_if_success (with_reducible show wpAny _ _ (subscriptTail _ _ (Value.ref _) (Value.ref _)) _ _ _)); (fail_if_success (with_reducible show wpAny _ _ (compareOp _ (Value.ref _) (Value.ref _)) _ _ _)); (fail_if_success (with_reducible show LCg.CompSrc _ _ _ _ _ _ _ _ _ _ _ _ _ _)); (fail_if_success (with_reducible show LCt.CompSrcT _ _ _ _ _ _ _ _ _ _ _ _ _ _ _)); (fail_if_success (with_reducible show wpAny _ _ (binaryOp _ (Value.ref _) (Value.ref _)) _ _ _)); (fail_if_success (with_reducible show LCg.FinE _ _ _ _ _ _ _)); (fail_if_success (with_reducible show Turned _ _ _ _ _ _ _ _)); (first | (k_unfold; (try dsimp only)) | walk1 | (dsimp only; walk1) | ((dsimp only [List.nil_append, List.cons_append]); walk1) | (leave1; (try dsimp only)) | fail "no step")))
      exact hq _ _ _ hb2 F2 N2
end
section
theorem rst_S14 : True := by w_top off; trivial
open LCg LCt
set_option linter.all false in
theorem stageL (w : World) (mean : ExcName → Option Value) (mg mb : Str → Option Value) (L a : Addr) (dp un : Nat) (gd : Option (List Code)) (cd : Value) (A₀ : Around) (h₀ : Heap) (m : Str → Option Value) (s : Shared) (rest : List (Addr × Obj)) (V dV lf : Addr) (nd nf : Nat) (k : Nat → Tok) (v : Nat → Value) (bpc ffc kv fv : Value) (kind : Int) (t1 : Tok) (fvs : List Value) (oM : Obj) (lm lc : Addr) (nm nc : Nat) (bs : List Bool) (rs : List Value) (chains : List (List Int)) (Q : Flow → Shared → Prop)
    (B : Below A₀ h₀ [] h₀) (F : Fr h₀ L s.heap m) (X : (Mine.hd.heap_1 w.params).In h₀) (N : News h₀ L s.heap ((V, instObj 316 dV) :: (dV, dictOf (volEs w.params k v bpc ffc kv (.ref lf) (.bool true) (.bool true)) nd) :: rest))
    (T : Top Mine.hd.view_39 (looseW Mine.hd.view_39 [Str.ofString "PyFATException", Str.ofString "errno", Str.ofString "PyFat"]) mean mg mb h₀)
    (hV1 : @Ne Nat V dV) (hr1 : ∀ p ∈ rest, p.1 ≠ V) (hr2 : ∀ p ∈ rest, p.1 ≠ dV)
    (mv : m (Str.ofString "volume") = some (.ref V)) (mf : m (Str.ofString "first") = some fv) (mk : m (Str.ofString "kind") = some (.int kind t1)) (mc : m (Str.ofString "chains") = some (.ref lc))
    (mlf : (lf, listOf fvs.toArray nf) ∈ rest) (hfat : IntsAre fvs (tableOf kind bs chains)) (mM : (L + 1 + 1, oM) ∈ rest) (dM : oM.data = .cell (some (.ref lm))) (ml : (lm, listOf (bs.map Value.bool).toArray nm) ∈ rest) (mlc : (lc, listOf rs.toArray nc) ∈ rest) (hch : ChsIn rest rs chains)
    (hk : Kind kind) (hbl : bs.length ≤ 40) (hin : ∀ c ∈ chains, c.length ≤ 40 ∧ ∀ z ∈ c, 0 ≤ z ∧ z < (bs.length : Int) + 2)
    (hgb : AllBare s.gens) (hdp : dp + 20 < recursionLimit) (hun : un + 200 < cLine)
    (hq : ∀ h' tk' gens', AllBare gens' → Fr h₀ L h' m → Q (.ret (.bool true)) { s with heap := h', toks := tk', gens := gens' }) :
    wpAny (model PySem.Challenge.rw_jr0029_01.row.prog w) (arTop dp un gd (envOfC (Str.ofString "law") lsc L a cd) []) (execs (lbody.drop 22) (envOfC (Str.ofString "law") lsc L a cd)) Q (fun _ _ => False) s := by
  delta lbody lawPart
  dsimp only [List.take, List.drop]
  (repeat' ((fail_if_success (with_reducible show wpAny _ _ (call (Value.ref 362) _) _ _ _)); (fail_if_success (with_reducible show wpAny _ _ (call (Value.ref 369) _) _ _ _)); (fail_if_success (with_reducible show wpAny _ _ (exec (Stmt.For _ _ _ _ _) _) _ _ _)); (fail_if_success (with_reducible show wpAny _ _ (eval (Expr.ListComp _ _ _ _) _) _ _ _)); (fail_if_success (with_reducible show wpAny _ _ (pyIter (Value.ref _)) _ _ _)); (fail_if_success (with_reducible show wpAny _ _ (subscriptTail _ _ (Value.ref _) (Value.int _ _)) _ _ _)); (fail_if_success (with_reducible show wpAny _ _ (subscriptTail _ _ (Value.ref _) (Value.ref _)) _ _ _)); (fail_if_success (with_reducible show wpAny _ _ (compareOp _ (Value.ref _) (Value.ref _)) _ _ _)); (fail_if_success (with_reducible show LCg.CompSrc _ _ _ _ _ _ _ _ _ _ _ _ _ _)); (fail_if_success (with_reducible show LCt.CompSrcT _ _ _ _ _ _ _ _ _ _ _ _ _ _ _)); (fail_if_success (with_reducible show wpAny _ _ (binaryOp _ (Value.ref _) (Value.ref _)) _ _ _)); (fail_if_success (with_reducible show LCg.FinE _ _ _ _ _ _ _)); (fail_if_success (with_reducible show Turned _ _ _ _ _ _ _ _)); (first | (k_unfold; (try dsimp only)) | walk1 | (dsimp only; walk1) | ((dsimp only [List.nil_append, List.cons_append]); walk1) | (leave1; (try dsimp only)) | fail "no step")))
  all_goals first | exact Str.ofString "" | exact Value.none | exact (0 : Nat) | skip
  rename News _ _ _ _ => N1
  rename Fr _ _ _ _ => F1
  refine refused_claim w mean mg mb _ ((V, instObj 316 dV) :: (dV, dictOf (volEs w.params k v bpc ffc kv (.ref lf) (.bool false) (.bool true)) nd) :: rest) V dV nd k v _ _ _ _ _ _ _ _ (fun t => .none) dp un gd _ A₀ h₀ h₀ L _ _ _ _ B (by k_asm) X N1 T rfl rfl (.head _) (.tail _ (.head _)) (by omega) (by omega) ?hcall ?hho ?heq ?hret
  case hcall =>
    intro env1 h1 L1 m1 s1 tw1 Q1 E1 B1 F1 X1 N1 T1 hcs hfr hg hraise
    refine alloc_uninit w mean mg mb _ V dV nd k v bpc ffc kv (.ref lf) (.bool true) _ _ _ _ _ _ _ _ _ _ _ _ _ _ B1 F1 X1 N1 T1 hcs hfr (.head _) (.tail _ (.head _)) (by omega) (by omega) ?_
    intro g e h' tk' FG fl
    exact hraise g e h' tk' _ 0 (by rw [hg]; exact hgb) FG fl
  case hho => exact fun t => rfl
  case heq =>
    intro t A Q E s h
    exact EqNone.eq_none_none h
  case hret =>
    intro h' tk' gens' hb' F' N'
    clear F1 N1
    (repeat' ((fail_if_success (with_reducible show wpAny _ _ (call (Value.ref 362) _) _ _ _)); (fail_if_success (with_reducible show wpAny _ _ (call (Value.ref 369) _) _ _ _)); (fail_if_success (with_reducible show wpAny _ _ (exec (Stmt.For _ _ _ _ _) _) _ _ _)); (fail_if_success (with_reducible show wpAny _ _ (eval (Expr.ListComp _ _ _ _) _) _ _ _)); (fail_if_success (with_reducible show wpAny _ _ (pyIter (Value.ref _)) _ _ _)); (fail_if_success (with_reducible show wpAny _ _ (subscriptTail _ _ (Value.ref _) (Value.int _ _)) _ _ _)); (fail_if_success (with_reducible show wpAny _ _ (subscriptTail _ _ (Value.ref _) (Value.ref _)) _ _ _)); (fail_if_success (with_reducible show wpAny _ _ (compareOp _ (Value.ref _) (Value.ref _)) _ _ _)); (fail_if_success (with_reducible show LCg.CompSrc _ _ _ _ _ _ _ _ _ _ _ _ _ _)); (fail_if_success (with_reducible show LCt.CompSrcT _ _ _ _ _ _ _ _ _ _ _ _ _ _ _)); (fail_if_success (with_reducible show wpAny _ _ (binaryOp _ (Value.ref _) (Value.ref _)) _ _ _)); (fail_if_success (with_reducible show LCg.FinE _ _ _ _ _ _ _)); (fail_if_success (with_reducible show Turned _ _ _ _ _ _ _ _)); (first | (k_unfold; (try dsimp only)) | walk1 | (dsimp only; walk1) | ((dsimp only [List.nil_append, List.cons_append]); walk1) | (leave1; (try dsimp only)) | fail "no step")))
    all_goals first | exact Str.ofString "" | exact Value.none | exact (0 : Nat) | skip
    refine shut_claim w mean mg mb _ (fun _ _ => ((V, instObj 316 dV) :: (dV, dictOf (volEs w.params k v bpc ffc kv (.ref lf) (.bool false) (.bool true)) nd) :: rest)) V dV nd k v _ _ _ _ _ _ _ _ (fun t => .none) dp un gd _ A₀ h₀ h₀ L _ _ _ _ B (by k_asm) X N' T rfl rfl (.head _) (.tail _ (.head _)) (by omega) (by omega) ?hcall2 ?hho2 ?heq2 ?hret2
    case hcall2 =>
      intro env1 h1 L1 m1 s1 tw1 Q1 E1 B1 F1 X1 N1 T1 hcs hfr hg hraise
      refine free_uninit w mean mg mb _ V dV nd k v bpc ffc kv (.ref lf) (.bool true) _ _ _ _ _ _ _ _ _ _ _ _ _ _ B1 F1 X1 N1 T1 hcs hfr (.head _) (.tail _ (.head _)) (by omega) (by omega) ?_
      intro g e h' tk' FG fl
      exact hraise g e h' tk' _ 0 0 0 (by rw [hg]; exact hb') FG fl
    case hho2 => exact fun t => rfl
    case heq2 =>
      intro t A Q E s h
      exact EqNone.eq_none_none h
    case hret2 =>
      intro h2 tk2 gens2 _ _ hb2 F2 N2
      clear F' N'
      have hch2 : ChsIn ((V, instObj 316 dV) :: (dV, dictOf (volEs w.params k v bpc ffc kv (.ref lf) (.bool false) (.bool true)) nd) :: rest) rs chains := hch.mono fun q hq => .tail _ (.tail _ hq)
      (repeat' ((fail_if_success (with_reducible show wpAny _ _ (exec (Stmt.For _ _ _ _ _) _) _ _ _)); (fail_if_success (with_reducible show wpAny _ _ (eval (Expr.ListComp _ _ _ _) _) _ _ _)); (fail_if_success (with_reducible show wpAny _ _ (pyIter (Value.ref _)) _ _ _)); (fail_if_success (with_reducible show wpAny _ _ (subscriptTail _ _ (Value.ref _) (Value.int _ _)) _ _ _)); (fail_if_success (with_reducible show wpAny _ _ (subscriptTail _ _ (Value.ref _) (Value.ref _)) _ _ _)); (fail_if_success (with_reducible show wpAny _ _ (compareOp _ (Value.ref _) (Value.ref _)) _ _ _)); (fail_if_success (with_reducible show LCg.CompSrc _ _ _ _ _ _ _ _ _ _ _ _ _ _)); (fail_if_success (with_reducible show LCt.CompSrcT _ _ _ _ _ _ _ _ _ _ _ _ _ _ _)); (fail_if_success (with_reducible show wpAny _ _ (binaryOp _ (Value.ref _) (Value.ref _)) _ _ _)); (fail_if_success (with_reducible show LCg.FinE _ _ _ _ _ _ _)); (fail_if_success (with_reducible show Turned _ _ _ _ _ _ _ _)); (first | (k_unfold; (try dsimp only)) | walk1 | (dsimp only; walk1) | ((dsimp only [List.nil_append, List.cons_append]); walk1) | (leave1; (try dsimp only)) | fail "no step")))
      all_goals first | exact Str.ofString "" | exact Value.none | exact (0 : Nat) | skip
      rename IntsAre _ (tableOf kind bs chains) => hI9
      refine eq_intsK (vs := fvs) (us := _) (ms := _) (by kmk_list) hfat (by kmk_list) hI9 (by first | ktr_room | (show un + 64 < cLine; omega) | (show un + 1 + 64 < cLine; omega)) ?_
      rw [decide_eq_true (rfl : tableOf kind bs chains = tableOf kind bs chains)]
      (repeat' ((fail_if_success (with_reducible show wpAny _ _ (exec (Stmt.For _ _ _ _ _) _) _ _ _)); (fail_if_success (with_reducible show wpAny _ _ (eval (Expr.ListComp _ _ _ _) _) _ _ _)); (fail_if_success (with_reducible show wpAny _ _ (pyIter (Value.ref _)) _ _ _)); (fail_if_success (with_reducible show wpAny _ _ (subscriptTail _ _ (Value.ref _) (Value.int _ _)) _ _ _)); (fail_if_success (with_reducible show wpAny _ _ (subscriptTail _ _ (Value.ref _) (Value.ref _)) _ _ _)); (fail_if_success (with_reducible show wpAny _ _ (compareOp _ (Value.ref _) (Value.ref _)) _ _ _)); (fail_if_success (with_reducible show LCg.CompSrc _ _ _ _ _ _ _ _ _ _ _ _ _ _)); (fail_if_success (with_reducible show LCt.CompSrcT _ _ _ _ _ _ _ _ _ _ _ _ _ _ _)); (fail_if_success (with_reducible show wpAny _ _ (binaryOp _ (Value.ref _) (Value.ref _)) _ _ _)); (fail_if_success (with_reducible show LCg.FinE _ _ _ _ _ _ _)); (fail_if_success (with_reducible show Turned _ _ _ _ _ _ _ _)); (first | (k_unfold; (try dsimp only)) | walk1 | (dsimp only; walk1) | ((dsimp only [List.nil_append, List.cons_append]); walk1) | (leave1; (try dsimp only)) | fail "no step")))
      all_goals first | exact Str.ofString "" | exact Value.none | exact (0 : Nat) | skip
      rename Fr _ _ _ _ => F9
      exact hq _ _ _ hb2 F9
end
section
theorem rst_PL2 : True := by w_top off; trivial
theorem good_mem {bs : List Bool} {i : Nat} {z : Int} (h : z ∈ goodOf bs i) : 2 ≤ z ∧ z < (i : Int) + 2 ∧ bs.getD (z - 2).toNat true = false := by
  unfold goodOf at h
  obtain ⟨j, hj, rfl⟩ := List.mem_map.mp h
  obtain ⟨h1, h2⟩ := List.mem_filter.mp hj
  have h3 := List.mem_range.mp h1
  refine ⟨by omega, by omega, ?_⟩
  rw [show (2 + (j : Int) - 2).toNat = j by omega]
  simpa using h2
theorem good_nodup (bs : List Bool) (i : Nat) : (goodOf bs i).Nodup := by
  unfold goodOf
  refine List.Pairwise.map _ (fun x y h => ?_) ((List.nodup_range).filter _)
  intro e
  exact h (by omega)
theorem down_mem {ns : List Int} {bs : List Bool} {z : Int} (h : z ∈ downOf ns bs) : z ∈ goodOf bs bs.length := by
  unfold downOf at h
  exact List.mem_reverse.mp (List.mem_of_mem_take h)
theorem down_nodup (ns : List Int) (bs : List Bool) : (downOf ns bs).Nodup := by
  unfold downOf
  refine List.Pairwise.sublist (List.take_sublist _ _) ?_
  exact List.pairwise_reverse.mpr (List.Pairwise.imp (fun h => Ne.symm h) (good_nodup bs bs.length))
theorem down_len (ns : List Int) (bs : List Bool) : (downOf ns bs).length ≤ bs.length := by
  unfold downOf
  rw [List.length_take, List.length_reverse]
  have := goodOf_len bs bs.length
  omega
theorem wf0 (ns : List Int) (bs : List Bool) : WF bs (chains0 ns bs) := by
  unfold chains0
  split
  · exact ⟨fun c hc => (nomatch hc), fun c hc => (nomatch hc), List.Pairwise.nil⟩
  · rename_i hne
    refine ⟨fun c hc => ?_, fun c hc z hz => ?_, ?_⟩
    · rw [List.mem_singleton.mp hc]; exact hne
    · rw [List.mem_singleton.mp hc] at hz
      exact good_mem (down_mem hz)
    · simp only [List.flatten_cons, List.flatten_nil, List.append_nil]
      exact down_nodup ns bs
theorem len0 (ns : List Int) (bs : List Bool) : (chains0 ns bs).length ≤ 1 := by
  unfold chains0; split <;> simp
theorem c30_0 (ns : List Int) (bs : List Bool) (h : bs.length ≤ 26) : ∀ c ∈ chains0 ns bs, c.length ≤ 30 := by
  intro c hc
  unfold chains0 at hc
  split at hc
  · exact nomatch hc
  · rw [List.mem_singleton.mp hc]
    have := down_len ns bs
    omega
theorem ff0 (kind : Int) (bs : List Bool) (cs : List (List Int)) : FF (tableOf kind bs cs) 0 :=
  ⟨Int.le_refl _, by rw [tableOf_length]; omega, fun q _ hq => by omega⟩
theorem marks_len (ns : List Int) : 4 ≤ (marksOf ns).length ∧ (marksOf ns).length ≤ 26 := by
  have := take_bounds ns 2 15 (by decide)
  unfold marksOf
  rw [List.length_append, List.length_map, List.length_range, List.length_singleton]
  omega
theorem marks_last (ns : List Int) : (marksOf ns).getD ((marksOf ns).length - 1) true = true := by
  unfold marksOf
  rw [List.length_append, List.length_singleton, Nat.add_sub_cancel, List.getD_eq_getElem?_getD, List.getElem?_append_right (Nat.le_refl _), Nat.sub_self]
  rfl
end
section
theorem rst_ZF : True := by w_top off; trivial
open LCg LCt
set_option linter.all false in
theorem law_goal : LawGoal lbody lsc := by
  intro w mean mg mb l L a vs ns dp un gd cd A₀ h₀ m s oS oM oT oF A hA B F X N T dS dM dT dF hl hi hn hdp hun hgb
  subst hA
  have hml := marks_len ns
  rw [show lbody = lbody.take 3 ++ lbody.drop 3 from (List.take_append_drop ..).symm]
  refine execs_cut _ _ _ ?_
  refine stageA w mean mg mb l L a vs ns dp un gd cd A₀ h₀ m s oS oM oT oF _ _ B F X N T dS dM hl hi hn hdp hun ?_
  intro kind t1 t2 lm n oM' h1 tk1 hk dM' hlm F1 N1
  show wpAny _ _ (execs (lbody.drop 3) _) _ _ _
  clear F N
  rw [drop_cut lbody (show 3 ≤ 8 by decide)]
  refine execs_cut _ _ _ ?_
  refine stageB w mean mg mb L a dp un gd cd A₀ h₀ _ _ _ kind (1 + take ns 1 40) t1 t2 _ _ B F1 X N1 T rfl rfl hdp hun ?_
  intro V dV d9 o9 k v tf h2 tk2 hlt hVd F2 N2
  show wpAny _ _ (execs (lbody.drop 8) _) _ _ _
  clear F1 N1
  have N2' := fun p hp => N2 p (.tail _ hp)
  rw [drop_cut lbody (show 8 ≤ 11 by decide)]
  refine execs_cut _ _ _ ?_
  refine stageC w mean mg mb l L a vs ns dp un gd cd A₀ h₀ _ _ _ oS oM' lm n (marksOf ns) _ _ B F2 X N2' T (.tail _ (.tail _ (.tail _ (.tail _ (.tail _ (.tail _ (.head _))))))) dS (.tail _ (.tail _ (.tail _ (.tail _ (.tail _ (.head _)))))) dM' (.tail _ (.tail _ (.head _))) (by omega) hl hi hn hdp hun ?_
  intro lg ld lc rs ws h3 tk3 hld hldc hlc hch F3 N3
  show wpAny _ _ (execs (lbody.drop 11) _) _ _ _
  clear F2 N2 N2'
  have hld' := kst_ltOf hld
  have hlc' := kst_ltOf hlc
  have e1 : @LT.lt Nat _ V ld := hld' _ (.head _)
  have e2 : @LT.lt Nat _ dV ld := hld' _ (.tail _ (.head _))
  have e3 : @LT.lt Nat _ V lc := hlc' _ (.head _)
  have e4 : @LT.lt Nat _ dV lc := hlc' _ (.tail _ (.head _))
  have e5 : @LT.lt Nat _ lm dV := hlt _ (.head _)
  -- statement 11: the table is laid
  have hch1 : ChsIn ((lc, listOf (List.toArray rs) 0) :: (ld, listOf (List.toArray ws) 0) :: (lm, listOf ((marksOf ns).map Value.bool).toArray n) :: (L + 1 + 1 + 1 + 1, oF) :: (L + 1 + 1 + 1, oT) :: (L + 1 + 1, oM') :: (L + 1, oS) :: []) rs (chains0 ns (marksOf ns)) := by
    refine hch.strip fun a vs n hm => ?_
    rcases List.mem_cons.mp hm with h | h
    · exact .tail _ (h ▸ .head _)
    rcases List.mem_cons.mp h with h | h
    · exact absurd (congrArg (fun p => p.2.cls) h) (by intro q; exact nomatch q)
    rcases List.mem_cons.mp h with h | h
    · exact absurd (congrArg (fun p => p.2.data) h) (by intro q; exact nomatch q)
    exact .tail _ (.tail _ h)
  rw [drop_cut lbody (show 11 ≤ 12 by decide)]
  refine execs_cut _ _ _ ?_
  refine stageD w mean mg mb L a dp un gd cd A₀ h₀ _ _ ((lc, listOf (List.toArray rs) 0) :: (ld, listOf (List.toArray ws) 0) :: (lm, listOf ((marksOf ns).map Value.bool).toArray n) :: (L + 1 + 1 + 1 + 1, oF) :: (L + 1 + 1 + 1, oT) :: (L + 1 + 1, oM') :: (L + 1, oS) :: []) V dV 16 k v (.int (1 + take ns 1 40) t2) (.int 0 tf) (.ref d9) (.bool true) (.bool false) kind t1 t1 oM' lm lc n 0 (marksOf ns) rs (chains0 ns (marksOf ns)) _ _ B F3 X (fun q hq => N3 q ?n4) T (Nat.ne_of_gt hVd) ?r1 ?r2 rfl rfl rfl (.tail _ (.tail _ (.tail _ (.tail _ (.tail _ (.head _)))))) dM' (.tail _ (.tail _ (.head _))) (.head _) hch1 hk (by omega) (inOf (kind := kind) (wf0 ns (marksOf ns)) (c30_0 ns (marksOf ns) hml.2)) hdp hun ?_
  case n4 =>
    simp only [List.mem_cons] at hq ⊢
    rcases hq with h | h | h | h | h
    · exact .inr (.inr (.inl h))
    · exact .inr (.inr (.inr (.inl h)))
    · exact .inl h
    · exact .inr (.inl h)
    · exact .inr (.inr (.inr (.inr h)))
  case r1 =>
    intro p hp
    rcases List.mem_cons.mp hp with rfl | hp
    · exact Nat.ne_of_gt e3
    rcases List.mem_cons.mp hp with rfl | hp
    · exact Nat.ne_of_gt e1
    exact Nat.ne_of_lt (Nat.lt_trans (hlt p hp) hVd)
  case r2 =>
    intro p hp
    rcases List.mem_cons.mp hp with rfl | hp
    · exact Nat.ne_of_gt e4
    rcases List.mem_cons.mp hp with rfl | hp
    · exact Nat.ne_of_gt e2
    exact Nat.ne_of_lt (hlt p hp)
  intro r us nr h4 tk4 hD4 F4 hfat N4
  show wpAny _ _ (execs (lbody.drop 12) _) _ _ _
  clear F3 N3
  -- statement 12: the main loop
  have D5 : Dis ((lm, listOf ((marksOf ns).map Value.bool).toArray n) :: (L + 1 + 1 + 1 + 1, oF) :: (L + 1 + 1 + 1, oT) :: (L + 1 + 1, oM') :: (L + 1, oS) :: []) := by
    have q1 : @LT.lt Nat _ (L + 1 + 1 + 1) (L + 1 + 1 + 1 + 1) := Nat.lt_succ_self _
    have q2 : @LT.lt Nat _ (L + 1 + 1) (L + 1 + 1 + 1) := Nat.lt_succ_self _
    have q3 : @LT.lt Nat _ (L + 1) (L + 1 + 1) := Nat.lt_succ_self _
    refine Dis.cons (Dis.cons (Dis.cons (Dis.cons (Dis.cons ⟨.nil⟩ (fun q hq => nomatch hq)) ?_) ?_) ?_) ?_
    · intro q hq
      rw [List.mem_singleton.mp hq]
      exact Nat.ne_of_lt q3
    · intro q hq
      rcases List.mem_cons.mp hq with rfl | hq
      · exact Nat.ne_of_lt q2
      rw [List.mem_singleton.mp hq]
      exact Nat.ne_of_lt (Nat.lt_trans q3 q2)
    · intro q hq
      rcases List.mem_cons.mp hq with rfl | hq
      · exact Nat.ne_of_lt q1
      rcases List.mem_cons.mp hq with rfl | hq
      · exact Nat.ne_of_lt (Nat.lt_trans q2 q1)
      rw [List.mem_singleton.mp hq]
      exact Nat.ne_of_lt (Nat.lt_trans (Nat.lt_trans q3 q2) q1)
    · intro q hq
      rcases List.mem_cons.mp hq with rfl | hq
      · exact Nat.ne_of_lt hlm
      rcases List.mem_cons.mp hq with rfl | hq
      · exact Nat.ne_of_lt (Nat.lt_trans q1 hlm)
      rcases List.mem_cons.mp hq with rfl | hq
      · exact Nat.ne_of_lt (Nat.lt_trans (Nat.lt_trans q2 q1) hlm)
      rw [List.mem_singleton.mp hq]
      exact Nat.ne_of_lt (Nat.lt_trans (Nat.lt_trans (Nat.lt_trans q3 q2) q1) hlm)
  have D6 : Dis ((r, listOf (List.toArray us) nr) :: (lc, listOf (List.toArray rs) 0) :: (ld, listOf (List.toArray ws) 0) :: (V, instObj 316 dV) :: (dV, dictOf (volEs w.params k v (.int (1 + take ns 1 40) t2) (.int 0 tf) (.int kind t1) (.ref r) (.bool true) (.bool false)) 16) :: (lm, listOf ((marksOf ns).map Value.bool).toArray n) :: (L + 1 + 1 + 1 + 1, oF) :: (L + 1 + 1 + 1, oT) :: (L + 1 + 1, oM') :: (L + 1, oS) :: []) := by
    refine Dis.cons (Dis.cons (Dis.cons (Dis.cons (Dis.cons D5 ?_) ?_) ?_) ?_) ?_
    · exact fun q hq => Nat.ne_of_lt (hlt q hq)
    · intro q hq
      rcases List.mem_cons.mp hq with rfl | hq
      · exact Nat.ne_of_lt hVd
      exact Nat.ne_of_lt (Nat.lt_trans (hlt q hq) hVd)
    · intro q hq
      rcases List.mem_cons.mp hq with rfl | hq
      · exact Nat.ne_of_lt e1
      rcases List.mem_cons.mp hq with rfl | hq
      · exact Nat.ne_of_lt e2
      exact Nat.ne_of_lt (hld' q (.tail _ (.tail _ hq)))
    · intro q hq
      rcases List.mem_cons.mp hq with rfl | hq
      · exact Nat.ne_of_lt hldc
      rcases List.mem_cons.mp hq with rfl | hq
      · exact Nat.ne_of_lt e3
      rcases List.mem_cons.mp hq with rfl | hq
      · exact Nat.ne_of_lt e4
      exact Nat.ne_of_lt (hlc' q (.tail _ (.tail _ hq)))
    · intro q hq
      rcases List.mem_cons.mp hq with rfl | hq
      · exact Nat.ne_of_lt (hD4 _ (.tail _ (.tail _ (.head _))))
      rcases List.mem_cons.mp hq with rfl | hq
      · exact Nat.ne_of_lt (hD4 _ (.tail _ (.tail _ (.tail _ (.head _)))))
      rcases List.mem_cons.mp hq with rfl | hq
      · exact Nat.ne_of_lt (hD4 _ (.head _))
      rcases List.mem_cons.mp hq with rfl | hq
      · have := hD4 _ (.tail _ (.head _)); exact Nat.ne_of_lt this
      exact Nat.ne_of_lt (hD4 q (.tail _ (.tail _ (.tail _ (.tail _ hq)))))
  rw [drop_cut lbody (show 12 ≤ 13 by decide)]
  refine execs_cut _ _ _ ?_
  have hsz := take_bounds ns 1 40 (by decide)
  refine stageE w mean mg mb l L a vs ns dp un gd cd A₀ h₀ _ _ ((V, instObj 316 dV) :: (dV, dictOf (volEs w.params k v (.int (1 + take ns 1 40) t2) (.int 0 tf) (.int kind t1) (.ref r) (.bool true) (.bool false)) 16) :: (r, listOf (List.toArray us) nr) :: (lc, listOf (List.toArray rs) 0) :: (L + 1 + 1 + 1, oT) :: (L + 1 + 1 + 1 + 1, oF) :: (ld, listOf (List.toArray ws) 0) :: (lm, listOf ((marksOf ns).map Value.bool).toArray n) :: (L + 1 + 1, oM') :: (L + 1, oS) :: []) V dV 16 k v (1 + take ns 1 40) kind t2 t1 t1 t2 oS oM' lm n (marksOf ns) _ B F4 X (fun q hq => N4 q ?n5) T ?S5 dS dM' hl hi hn hk hml (marks_last ns) (by omega) hgb hdp hun ?_
  case n5 =>
    simp only [List.mem_cons, List.not_mem_nil, or_false] at hq ⊢
    rcases hq with h | h | h | h | h | h | h | h | h | h
    · exact .inr (.inl h)
    · exact .inr (.inr (.inl h))
    · exact .inl h
    · exact .inr (.inr (.inr (.inl h)))
    · exact .inr (.inr (.inr (.inr (.inr (.inr (.inr (.inl h)))))))
    · exact .inr (.inr (.inr (.inr (.inr (.inr (.inl h))))))
    · exact .inr (.inr (.inr (.inr (.inl h))))
    · exact .inr (.inr (.inr (.inr (.inr (.inl h)))))
    · exact .inr (.inr (.inr (.inr (.inr (.inr (.inr (.inr (.inl h))))))))
    · exact .inr (.inr (.inr (.inr (.inr (.inr (.inr (.inr (.inr h))))))))
  case S5 =>
    refine ⟨chains0 ns (marksOf ns), r, nr, us, 0, tf, lc, 0, rs, oT, oF, none, none, _, rfl, ?_, wf0 ns _, ff0 kind _ _, hfat, ?_, len0 ns _, c30_0 ns _ hml.2, dT, dF, .tail _ (.tail _ (.tail _ (.head _))), .tail _ (.tail _ (.head _)), .tail _ (.head _), rfl, rfl, rfl, rfl⟩
    · refine Dis.perm (D6.perm ((List.perm_append_comm (l₁ := [(r, listOf (List.toArray us) nr), (lc, listOf (List.toArray rs) 0), (ld, listOf (List.toArray ws) 0)]) (l₂ := [(V, instObj 316 dV), (dV, dictOf (volEs w.params k v (.int (1 + take ns 1 40) t2) (.int 0 tf) (.int kind t1) (.ref r) (.bool true) (.bool false)) 16)])).append_right [(lm, listOf ((marksOf ns).map Value.bool).toArray n), (L + 1 + 1 + 1 + 1, oF), (L + 1 + 1 + 1, oT), (L + 1 + 1, oM'), (L + 1, oS)])) ?_
      refine List.Perm.cons _ (List.Perm.cons _ (List.Perm.cons _ (List.Perm.cons _ ?_)))
      refine ((List.perm_append_comm (l₁ := [(ld, listOf (List.toArray ws) 0), (lm, listOf ((marksOf ns).map Value.bool).toArray n)]) (l₂ := [(L + 1 + 1 + 1 + 1, oF), (L + 1 + 1 + 1, oT)])).append_right [(L + 1 + 1, oM'), (L + 1, oS)]).trans ?_
      exact List.Perm.swap _ _ _
    · refine hch.strip fun a vs n hm => ?_
      rcases List.mem_cons.mp hm with h | h
      · exact h ▸ .head _
      rcases List.mem_cons.mp h with h | h
      · exact absurd (congrArg (fun p => p.2.cls) h) (by intro q; exact nomatch q)
      rcases List.mem_cons.mp h with h | h
      · exact absurd (congrArg (fun p => p.2.data) h) (by intro q; exact nomatch q)
      rcases List.mem_cons.mp h with h | h
      · exact .tail _ (h ▸ .head _)
      rcases List.mem_cons.mp h with h | h
      · exact absurd (congrArg Prod.snd h).symm (cell_not_list dF _ _)
      rcases List.mem_cons.mp h with h | h
      · exact absurd (congrArg Prod.snd h).symm (cell_not_list dT _ _)
      exact .tail _ (.tail _ h)
  intro h5 tk5 gens5 m5 nx5 hgb5 hS5 F5 N5
  show wpAny _ _ (execs (lbody.drop 13) _) _ _ _
  clear F4 N4
  obtain ⟨chains, lf, nf, fvs, ffc, tf5, lc5, nc5, rs5, oT5, oF5, vT5, vF5, rest, rfl, hD, W, hFF, hfat5, hch5, hcl, hc30, hT5, hF5, mS, mM, ml, k1, k2, k3, k4⟩ := hS5
  have bl : ∀ t : List Int, t.length = (marksOf ns).length + 2 → 4 ≤ t.length ∧ t.length ≤ 60 := fun t h => by omega
  -- statements 13-15: the broken table
  rw [drop_cut lbody (show 13 ≤ 16 by decide)]
  refine execs_cut _ _ _ ?_
  refine stageF w mean mg mb l L a vs ns dp un gd cd A₀ h₀ _ _ _ kind t1 oS oM' lm n (marksOf ns) _ _ B F5 X N5 T k1 (.tail _ (.tail _ (.tail _ (.tail _ (.tail _ (.tail _ mS)))))) dS (.tail _ (.tail _ (.tail _ (.tail _ (.tail _ (.tail _ mM)))))) dM' (.tail _ (.tail _ (.tail _ (.tail _ (.tail _ (.tail _ ml)))))) hl hi hn hk (by omega) hml.1 hdp hun ?_
  intro rb ub nb x h6 tk6 hlt6 hx hub F6 N6
  show wpAny _ _ (execs (lbody.drop 16) _) _ _ _
  clear F5 N5
  have hbl6 : (((tableOf kind (marksOf ns) []).set 2 x).set 3 2).length = (marksOf ns).length + 2 := by rw [List.length_set, List.length_set, tableOf_length]
  have hull := hub.length
  -- statement 16: its copy
  have d1 := hD.head
  have d2 := hD.tail.head
  dsimp only at d1 d2
  rw [drop_cut lbody (show 16 ≤ 17 by decide)]
  refine execs_cut _ _ _ ?_
  refine stageG w mean mg mb L a dp un gd cd A₀ h₀ _ _ ((rb, listOf (List.toArray ub) nb) :: (lf, listOf (List.toArray fvs) nf) :: (lc5, listOf (List.toArray rs5) nc5) :: (L + 1 + 1 + 1, oT5) :: (L + 1 + 1 + 1 + 1, oF5) :: rest) V dV 16 k v (.int (1 + take ns 1 40) t2) (.int ffc tf5) (.ref lf) (.int kind t1) (.bool true) (.bool false) rb ub nb _ _ B F6 X (fun q hq => N6 q ?n6) T (d1 _ (.head _)).symm ?r6 ?s6 k3 rfl (.head _) (by omega) hdp hun ?_
  case n6 =>
    simp only [List.mem_cons] at hq ⊢
    rcases hq with h | h | h | h
    · exact .inr (.inl h)
    · exact .inr (.inr (.inl h))
    · exact .inl h
    · exact .inr (.inr (.inr h))
  case r6 =>
    intro p hp
    rcases List.mem_cons.mp hp with rfl | hp
    · exact Nat.ne_of_gt (hlt6 _ (.head _))
    exact d1 p (.tail _ hp)
  case s6 =>
    intro p hp
    rcases List.mem_cons.mp hp with rfl | hp
    · exact Nat.ne_of_gt (hlt6 _ (.tail _ (.head _)))
    exact d2 p hp
  intro r7 h7 tk7 hr7 hr7V hr7d F7 N7
  show wpAny _ _ (execs (lbody.drop 17) _) _ _ _
  clear F6 N6
  -- statement 17: the broken chain can't be freed
  rw [drop_cut lbody (show 17 ≤ 18 by decide)]
  refine execs_cut _ _ _ ?_
  refine stageH w mean mg mb L a dp un gd cd A₀ h₀ _ _ ((rb, listOf (List.toArray ub) nb) :: (lf, listOf (List.toArray fvs) nf) :: (lc5, listOf (List.toArray rs5) nc5) :: (L + 1 + 1 + 1, oT5) :: (L + 1 + 1 + 1 + 1, oF5) :: rest) V dV r7 rb 16 ub.length nb k v (.int (1 + take ns 1 40) t2) ffc kind x tf5 t1 _ ub ub _ B F7 X (fun q hq => N7 q ?n7) T (d1 _ (.head _)).symm (Ne.symm hr7V) (Ne.symm hr7d) ?r7 ?s7 hr7 k3 rfl (.head _) hub hub hk (bl _ hbl6) ?f3 ?f2 hx ?ff hgb5 hdp hun ?_
  case n7 =>
    simp only [List.mem_cons] at hq ⊢
    rcases hq with h | h | h | h
    · exact .inr (.inl h)
    · exact .inr (.inr (.inl h))
    · exact .inl h
    · exact .inr (.inr (.inr h))
  case r7 =>
    intro p hp
    rcases List.mem_cons.mp hp with rfl | hp
    · exact Nat.ne_of_gt (hlt6 _ (.head _))
    exact d1 p (.tail _ hp)
  case s7 =>
    intro p hp
    rcases List.mem_cons.mp hp with rfl | hp
    · exact Nat.ne_of_gt (hlt6 _ (.tail _ (.head _)))
    exact d2 p hp
  case f3 =>
    rw [List.getD_eq_getElem?_getD, List.getElem?_set_self (by rw [List.length_set, tableOf_length]; omega)]
    rfl
  case f2 =>
    rw [List.getD_eq_getElem?_getD, List.getElem?_set_ne (by decide), List.getElem?_set_self (by rw [tableOf_length]; omega)]
    rfl
  case ff =>
    have := hFF.2.1
    rw [tableOf_length] at this
    exact ⟨hFF.1, by omega⟩
  intro h8 tk8 gens8 ffc8 tf8 hgb8 F8 N8
  show wpAny _ _ (execs (lbody.drop 18) _) _ _ _
  clear F7 N7
  -- statements 18, 19: the table laid anew, only to be read
  have hch8 : ChsIn ((r7, listOf ub.toArray ub.length) :: (rb, listOf (List.toArray ub) nb) :: (lf, listOf (List.toArray fvs) nf) :: (lc5, listOf (List.toArray rs5) nc5) :: (L + 1 + 1 + 1, oT5) :: (L + 1 + 1 + 1 + 1, oF5) :: rest) rs5 chains := hch5.mono fun q hq => .tail _ (.tail _ (.tail _ (.tail _ (.tail _ (.tail _ hq)))))
  have g1 : ∀ p ∈ (r7, listOf ub.toArray ub.length) :: (rb, listOf (List.toArray ub) nb) :: (lf, listOf (List.toArray fvs) nf) :: (lc5, listOf (List.toArray rs5) nc5) :: (L + 1 + 1 + 1, oT5) :: (L + 1 + 1 + 1 + 1, oF5) :: rest, p.1 ≠ V := by
    intro p hp
    rcases List.mem_cons.mp hp with rfl | hp
    · exact hr7V
    rcases List.mem_cons.mp hp with rfl | hp
    · exact Nat.ne_of_gt (hlt6 _ (.head _))
    exact d1 p (.tail _ hp)
  have g2 : ∀ p ∈ (r7, listOf ub.toArray ub.length) :: (rb, listOf (List.toArray ub) nb) :: (lf, listOf (List.toArray fvs) nf) :: (lc5, listOf (List.toArray rs5) nc5) :: (L + 1 + 1 + 1, oT5) :: (L + 1 + 1 + 1 + 1, oF5) :: rest, p.1 ≠ dV := by
    intro p hp
    rcases List.mem_cons.mp hp with rfl | hp
    · exact hr7d
    rcases List.mem_cons.mp hp with rfl | hp
    · exact Nat.ne_of_gt (hlt6 _ (.tail _ (.head _)))
    exact d2 p hp
  rw [drop_cut lbody (show 18 ≤ 20 by decide)]
  refine execs_cut _ _ _ ?_
  refine stageI w mean mg mb L a dp un gd cd A₀ h₀ _ _ ((r7, listOf ub.toArray ub.length) :: (rb, listOf (List.toArray ub) nb) :: (lf, listOf (List.toArray fvs) nf) :: (lc5, listOf (List.toArray rs5) nc5) :: (L + 1 + 1 + 1, oT5) :: (L + 1 + 1 + 1 + 1, oF5) :: rest) V dV 16 k v (.int (1 + take ns 1 40) t2) (.int ffc8 tf8) (.ref r7) (.bool true) (.bool false) kind t1 t1 oM' lm lc5 n nc5 (marksOf ns) rs5 chains _ _ B F8 X N8 T (d1 _ (.head _)).symm g1 g2 k1 k3 k4 (.tail _ (.tail _ (.tail _ (.tail _ (.tail _ (.tail _ mM)))))) dM' (.tail _ (.tail _ (.tail _ (.tail _ (.tail _ (.tail _ ml)))))) (.tail _ (.tail _ (.tail _ (.head _)))) hch8 hk (by omega) (inOf (kind := kind) W hc30) hdp hun ?_
  intro r9 us9 n9 h9 tk9 hlt9 F9 hfat9 N9
  show wpAny _ _ (execs (lbody.drop 20) _) _ _ _
  clear F8 N8
  -- statement 20
  rw [drop_cut lbody (show 20 ≤ 21 by decide)]
  refine execs_cut _ _ _ ?_
  refine stageJ w mean mg mb L a dp un gd cd A₀ h₀ _ _ _ lc5 nc5 rs5 chains _ B F9 X N9 T k4 (.tail _ (.tail _ (.tail _ (.tail _ (.tail _ (.tail _ (.head _))))))) (hch8.mono fun q hq => .tail _ (.tail _ (.tail _ hq))) W.ne hdp hun ?_
  intro fv h10 tk10 F10 N10
  show wpAny _ _ (execs (lbody.drop 21) _) _ _ _
  clear F9 N9
  -- statement 21
  rw [drop_cut lbody (show 21 ≤ 22 by decide)]
  refine execs_cut _ _ _ ?_
  refine stageK w mean mg mb L a dp un gd cd A₀ h₀ _ _ _ V dV 16 k v _ _ _ _ fv _ B F10 X N10 T k3 rfl (.tail _ (.head _)) (.tail _ (.tail _ (.head _))) hgb8 hdp hun ?_
  intro h11 tk11 gens11 hgb11 F11 N11
  show wpAny _ _ (execs (lbody.drop 22) _) _ _ _
  clear F10 N10
  -- statements 22, 23
  refine stageL w mean mg mb L a dp un gd cd A₀ h₀ _ _ ((r9, listOf (List.toArray us9) n9) :: (r7, listOf ub.toArray ub.length) :: (rb, listOf (List.toArray ub) nb) :: (lf, listOf (List.toArray fvs) nf) :: (lc5, listOf (List.toArray rs5) nc5) :: (L + 1 + 1 + 1, oT5) :: (L + 1 + 1 + 1 + 1, oF5) :: rest) V dV r9 16 n9 k v (.int (1 + take ns 1 40) t2) (.int ffc8 tf8) (.int kind t1) fv kind t1 us9 oM' lm lc5 n nc5 (marksOf ns) rs5 chains _ B F11 X (fun q hq => N11 q ?n11) T (d1 _ (.head _)).symm ?r11 ?s11 k3 rfl k1 k4 (.head _) hfat9 (.tail _ (.tail _ (.tail _ (.tail _ (.tail _ (.tail _ (.tail _ mM))))))) dM' (.tail _ (.tail _ (.tail _ (.tail _ (.tail _ (.tail _ (.tail _ ml))))))) (.tail _ (.tail _ (.tail _ (.tail _ (.head _))))) (hch8.mono fun q hq => .tail _ hq) hk (by omega) (inOf (kind := kind) W hc30) hgb11 hdp hun ?_
  case n11 =>
    simp only [List.mem_cons] at hq ⊢
    rcases hq with h | h | h | h
    · exact .inr (.inl h)
    · exact .inr (.inr (.inl h))
    · exact .inl h
    · exact .inr (.inr (.inr h))
  case r11 =>
    intro p hp
    rcases List.mem_cons.mp hp with rfl | hp
    · exact Nat.ne_of_gt (hlt9 _ (.head _))
    exact g1 p hp
  case s11 =>
    intro p hp
    rcases List.mem_cons.mp hp with rfl | hp
    · exact Nat.ne_of_gt (hlt9 _ (.tail _ (.head _)))
    exact g2 p hp
  intro h12 tk12 gens12 hgb12 F12
  exact ⟨rfl, F12.keep, rfl, hgb12⟩
theorem law_done : PySem.Challenge.rw_jr0029_01.Holds := lawPart.2.2 law_goal
end
end Mine
theorem PySem.Challenge.cw_jr0029_01_holds : PySem.Challenge.rw_jr0029_01.Holds :=
  Mine.law_done
