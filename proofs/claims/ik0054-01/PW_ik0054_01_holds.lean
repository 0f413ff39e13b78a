import PyProof.Rows.All
import Wide.All
import OpenK.AllK
import Wide.FinOn
import Lean
import PySem.Challenge.RW_ik0054_01
open PySem PySem.W PySem.Calls PyProof.Rows
set_option Elab.async false
set_option linter.unusedVariables false
set_option linter.unusedSimpArgs false
set_option linter.unnecessarySimpa false
set_option compiler.extract_closed false
set_option maxRecDepth 100000

namespace Mine
theorem map_two {α β γ : Type} {o : Option α} {f : α → β} {g : α → γ} {a : β} {b : γ} (h : o.map f = some a) (k : o.map g = some b) : o.map (fun s => (f s, g s)) = some (a, b) := by
  cases o with
  | none => cases h
  | some x => rw [Option.map_some, Option.some.inj h, Option.some.inj k]
/-- the head at once, behind the given opening -/
theorem left_own {p q : Program} {loose : List Str} {Xt : Shared → Bool} {α : Type} {Yf : Shared → α} {Ya : World → α} {N m₀ : Nat} {ann : Option Value}
    (e : opening p = plainProg p.main.scope.names) (hN : Nat.ble 600 N = true) (f : ∀ s, fenceModules? p s = some s)
    (size : ∀ w : World, ((boot_heap w.params).isNs mainGlobals, (boot_heap w.params).objs.size, (boot_heap w.params).nsMap mainGlobals "__annotations__") = (true, m₀, ann))
    (run : ∀ (w : World) (os : OsState), (topRun treeTable p w m₀ ann N ⟨boot_heap w.params, #[], boot_drawn, boot_toks, os⟩ (topStub p)).map (fun s₁ =>
      (staticsOk (importedModules p.main.body) (boot_heap w.params) s₁.heap && namesBound p s₁.heap && gensDone s₁ && laidKept (boot_heap w.params) s₁.heap, openSeen q loose (importedModules p.main.body) Xt true s₁, Yf s₁)) =
      some (true, openGood q loose, Ya w)) : LeftO p q loose Xt Yf Ya N true := fun w => by
  obtain ⟨⟨h, gs, d, k, os⟩, e, e'⟩ := Option.map_eq_some_iff.mp (boot_open e hN f w)
  obtain ⟨rfl, rfl, rfl, rfl⟩ : h = boot_heap w.params ∧ gs = #[] ∧ d = boot_drawn ∧ k = boot_toks := by simpa using e'
  obtain ⟨z1, z2, z3⟩ : _ ∧ _ ∧ _ := by simpa only [Prod.mk.injEq] using size w
  obtain ⟨s₁, r, r'⟩ := Option.map_eq_some_iff.mp (run w os)
  obtain ⟨l1, l2, l3⟩ : _ ∧ _ ∧ _ := by simpa only [Prod.mk.injEq] using r'
  have t : topFrom treeTable p w N ⟨boot_heap w.params, #[], boot_drawn, boot_toks, os⟩ = some s₁ := by
    unfold topFrom
    dsimp only
    rw [z1, z2, z3, r]
    show (match staticsOk (importedModules p.main.body) (boot_heap w.params) s₁.heap && namesBound p s₁.heap && gensDone s₁ && laidKept (boot_heap w.params) s₁.heap with | true => _ | false => _) = _
    rw [l1]
  unfold openEnds
  rw [e]
  show (topFrom treeTable p w N _).map _ = _
  rw [t]
  exact congrArg some (Prod.ext l2 l3)
abbrev prog : Program := PySem.Challenge.pw_ik0054_01
def vw : Program := PySem.W.view prog [0, 2, 3, 4, 5, 7, 9, 11, 12, 14, 16, 18, 19, 20, 21, 22, 23, 25, 26, 28, 29, 30, 31, 32]
/-- the top's run, behind the given opening -/
noncomputable def top (w : World) (os : OsState) : Option Shared := topRun treeTable prog w 11 (some (Value.ref 6)) 2712 ⟨boot_heap w.params, #[], boot_drawn, boot_toks, os⟩ (topStub prog)
theorem top_1 : ∀ (w : World) (os : OsState), (top w os).map (fun s => (staticsOk (importedModules prog.main.body) (boot_heap w.params) s.heap && namesBound prog s.heap && gensDone s && laidKept (boot_heap w.params) s.heap, s.heap.bltView)) = some (true, bltViewBooted) := by
  intro w os; unfold top; (try rw [PySem.W.Fast.te14082659384304107361, PySem.W.Fast.te14364793385576792824]); kernel_rfl
theorem top_2 : ∀ (w : World) (os : OsState), (top w os).map (fun s => seen ((recsOf vw).map (·.name)) (ownsOf vw) [] { s with gens := #[] }) = some (expectedOf vw) := by
  intro w os; unfold top; (try rw [PySem.W.Fast.te14082659384304107361, PySem.W.Fast.te14364793385576792824]); kernel_rfl
theorem top_3 : ∀ (w : World) (os : OsState), (top w os).map (fun s => s.heap.keysOk (looseW vw []) ((recsOf vw).map (·.name)) ((litsOf vw).map (·.1)) ((clssOf vw (looseW vw [])).map (·.name)) && s.heap.accountedOkI (importedModules prog.main.body) && s.heap.isNs mainGlobals && s.heap.isNs builtinsNs && tablesOk vw s.heap && (xlAt vw [] s && recOk (RowW.records (OpenRow.toRowW PySem.Challenge.rw_ik0054_01.row)) s) && s.gens.size == 0) = some true := by
  intro w os; unfold top; (try rw [PySem.W.Fast.te14082659384304107361, PySem.W.Fast.te14364793385576792824]); kernel_rfl
theorem top_4 : ∀ (w : World) (os : OsState), (top w os).map (fun s => (tabsOk vw s, pinSeenD vw (drecsOf vw) s, plainSeenE vw (looseW vw []) s, plainSeenD vw [] s, wideSeen vw s, clsSeenW vw [] s)) = some (true, pinGoodD (drecsOf vw), plainGoodE vw (looseW vw []), plainGoodD vw [], wideGood vw, clsGoodW vw []) := by
  intro w os; unfold top; (try rw [PySem.W.Fast.te14082659384304107361, PySem.W.Fast.te14364793385576792824]); kernel_rfl
theorem split_5 {α β γ δ ε : Type} {o : Option α} {f : α → Bool × β} {g : α → γ} {i : α → δ} {j : α → ε} {a b c d e} (h1 : o.map f = some (a, b)) (h2 : o.map g = some c) (h3 : o.map i = some d) (h4 : o.map j = some e) :
    o.map (fun s => ((f s).1, (g s, (f s).2, i s, j s))) = some (a, (c, b, d, e)) := by
  cases o with
  | none => cases h1
  | some x => rw [Option.map_some, Option.some.inj h1, Option.some.inj h2, Option.some.inj h3, Option.some.inj h4]
theorem top_at {α : Type} {Yf : Shared → α} {Ya : World → α} (h : ∀ (w : World) (os : OsState), (top w os).map Yf = some (Ya w)) :
    LeftO prog vw [] (fun s => xlAt vw [] s && recOk (RowW.records (OpenRow.toRowW PySem.Challenge.rw_ik0054_01.row)) s) Yf Ya 2712 true := by
  refine left_own (m₀ := 11) (ann := some (Value.ref 6)) (by kernel_rfl) (by decide) (fun s => by kernel_rfl) (fun w => by kernel_rfl) fun w os => ?_
  have e := map_two (split_5 (top_1 w os) (top_2 w os) (top_3 w os) (top_4 w os)) (h w os)
  obtain ⟨s, h1, h2⟩ := Option.map_eq_some_iff.mp e
  unfold top at h1
  rw [h1]
  have h3 := Prod.mk.inj h2
  have h4 := Prod.mk.inj h3.1
  exact congrArg some (Prod.ext h4.1 (Prod.ext h4.2 h3.2))
theorem law_said : PySem.Challenge.rw_ik0054_01.wellSaid = true := by (try rw [PySem.W.Fast.te9446332074065402090]); kernel_rfl
local macro_rules | `(tactic| o_law) => `(tactic| refine holds_law law_said fun said => ?_)
theorem head_of (H : Hook) {d : DefRec} {kwd : List (Str × Expr)} (hdef : defOf vw PySem.Challenge.rw_ik0054_01.row.name = some (d, kwd)) (hp : PySem.Challenge.rw_ik0054_01.row.prog.theDef PySem.Challenge.rw_ik0054_01.row.name = some (d.params, d.body, d.scope))
    (hk : kwWritten? d.params.kwonlyargs d.params.kw_defaults = some kwd) (k1 : PySem.Challenge.rw_ik0054_01.row.wellSaid = true) (hl : ∀ (w : World) (os : OsState), (top w os).map H.obs = some (H.val w)) (hw : PySem.Challenge.rw_ik0054_01.row.toRowW.promised)
    (hc : WalkO vw [] (XL vw []) H.says PySem.Challenge.rw_ik0054_01.row.toRowW d kwd fun f vs => PySem.call f vs) : PySem.Challenge.rw_ik0054_01.row.Holds :=
  holds_open (q := vw) (loose := []) (Xt := fun s => xlAt vw [] s && recOk (RowW.records (OpenRow.toRowW PySem.Challenge.rw_ik0054_01.row)) s) (XP := XL vw []) (Yf := Hook.obs H) (Ya := Hook.val H) (YP := Hook.says H) (N := 2712) (top_at hl) (Hook.of H) (Hook.keeps H) (fun s e => xl_of s (Bool.and_eq_true_iff.mp e).1) XL.keeps hdef hp hk (fun s e => recFacts_of (Bool.and_eq_true_iff.mp e).2) (by rfl) k1 (by decide +kernel) ⟨rfl, rfl, rfl, rfl, rfl, by decide +kernel⟩ hw hc
local macro_rules | `(tactic| o_head $H:term) => `(tactic| (
  refine head_of $H (by rfl) (by rfl) (by rfl) (by assumption) ?hl ?hw ?hc
  case hl => (intro w os; unfold top; (try rw [PySem.W.Fast.te14082659384304107361, PySem.W.Fast.te14364793385576792824]); kernel_rfl)))
set_option maxHeartbeats 8000000 in
open_top hd for PySem.Challenge.rw_ik0054_01
end Mine

namespace Mine
theorem room1 {a b c l : Nat} (h : a + b < l) (e : c ≤ b) : a + c < l := Nat.lt_of_le_of_lt (Nat.add_le_add_left e a) h
theorem room2 {a b c d l : Nat} (h : a + b < l) (e : c + d ≤ b) : a + c + d < l := by rw [Nat.add_assoc]; exact room1 h e
local macro_rules | `(tactic| walk_at "Ends") => `(tactic| (all_goals (try dsimp only); all_goals (try (k_unfold; dsimp only))))
local macro_rules | `(tactic| walk_at "U") => `(tactic| ((simp only [units_in1, units_deeper, Around.mark_units]); first | exact room2 (by assumption) (by decide) | exact room1 (by assumption) (by decide) | omega))
local macro_rules | `(tactic| walk_at "D") => `(tactic| ((simp only [depth_in1, depth_deeper]); first | exact room2 (by assumption) (by decide) | exact room1 (by assumption) (by decide) | omega))
local macro_rules | `(tactic| walk_at "Z") => `(tactic| first | omega | (simp only [List.length_append, List.length_map, List.length_cons, List.length_nil]; omega))
local macro_rules | `(tactic| walk_at "K") => `(tactic| exact Fr.keep (by assumption) _ _ (by assumption))
local macro_rules | `(tactic| walk_at "T") => `(tactic| ((case kd => walk_at "D"); (case ku => walk_at "U"); (case kh => exact rfl); k_whole))
section
/-- the walk begins anew -/
theorem anewB0 {M : Model} {A : Around} {E : Value → Shared → Prop} {Q : Value → Shared → Prop} {s : Shared} {env : Env} (h : ∀ v s', Q v s') : wpAny M A (eval (.Constant (.int 0) 0 ⟨0, 0, 0, 0⟩) env) Q E s := by
  w_top off
  first
    | (walk1; exact h _ _)
    | exact wpAny_Constant_int (h _ _)

abbrev MD (w : World) : Model := model PySem.Challenge.rw_ik0054_01.row.prog w

/-- what stands in every heap of the call -/
structure WF (w : World) (mean : ExcName → Option Value) (mg mb : Str → Option Value) (h : Heap) : Prop where
  K : (hd.heap_1 w.params).In h
  T : Top vw (looseW vw []) mean mg mb h

section
variable {w : World} {mean : ExcName → Option Value} {mg mb : Str → Option Value} {A : Around} {s : Shared}

theorem WF.keeps {h h' : Heap} (W : WF w mean mg mb h) (k : ∀ b o, h.get? b = some o → h'.get? b = some o) : WF w mean mg mb h' :=
  ⟨W.K.keeps k, W.T.keeps k⟩

theorem enter {R : Result → Shared → Prop} {name qual : Str} {params : Arguments} {body : List Stmt} {scope : Scope} {dV kV doc pm cdv ct oc : Value} {an od : Option Addr} {osl : Array (Option Value)} {f : Addr} {args : Args} {binds : List (Str × Value)}
    {as : List Addr} {news : List (Addr × Obj)}
    (W : WF w mean mg mb (hideAll s.heap as)) (hn : ∀ p ∈ news, s.heap.get? p.1 = some p.2 ∧ p.1 ∈ as)
    (ho : (hd.heap_1 w.params).lookup f = some ⟨oc, od, .func (fnOf name qual params body scope dV kV doc pm an cdv ct), osl⟩) (hcd : codeIn (hd.heap_1 w.params) cdv qual = true) (hroom : A.depth < recursionLimit)
    (hbind : BindsTo s (fnOf name qual params body scope dV kV doc pm an cdv ct) args binds) (hloc : ∀ y ∈ binds, scope.names.lookup y.1 = some .local)
    (h : ∀ g L' h₁, Fr g L' h₁ (fun y => binds.reverse.lookup y) → News g L' h₁ news → (hd.heap_1 w.params).In g → Top vw (looseW vw []) mean mg mb g → g = hideAll s.heap as →
      wpAny (MD w) (A.deeper (envOf qual scope L' f cdv)) (execs body (envOf qual scope L' f cdv))
        (fun fl s' => R (.ok (.ret (match fl with | .ret v => v | _ => .none))) s')
        (fun e s' => wpAny (MD w) (A.deeper (envOf qual scope L' f cdv)) (leaving (envOf qual scope L' f cdv) e) (fun _ s'' => R (.error e) s'') (fun e' s'' => R (.error e') s'') s')
        { s with heap := h₁, toks := s.toks + binds.length })
    (hco : scope.isCoroutine = false) (hgen : scope.isGenerator = false) (hk : scope.kind = .function)
    (hcell : ∀ x ∈ scope.names, x.2 ≠ .cell) : codeAny (MD w) A (.call (.ref f) args) R s := by
  have up : ∀ b o, (hideAll s.heap as).get? b = some o → s.heap.get? b = some o := fun b o e => of_hideAll _ e
  have W' := W.keeps up
  refine codeAny_call_def (fd := fnOf name qual params body scope dV kV doc pm an cdv ct) (body := body) (binds := binds) hroom (W'.K _ _ ho) rfl W'.T.nolimit (codeRec_of W'.K hcd) rfl hbind hcell hloc (fun h₁ hns hk₁ => ?_) hco hgen hk
  exact h _ s.heap.objs.size h₁ ⟨hns, fun b o e => hk₁ b o (up b o e), Nat.le_of_eq (hideAll_size _ _)⟩
    (fun p hp => ⟨hk₁ _ _ (hn p hp).1, Nat.ne_of_lt (Heap.lt_size (hn p hp).1), hideAll_none _ (hn p hp).2⟩) W.K W.T rfl

theorem wp_peek1 {α : Type} {K : Frag} {M : Model} {E : Value → Shared → Prop} {Q : α → Shared → Prop} {o : Obj} {r : Addr → α} (X : K.In s.heap)
    (q : Q (r s.heap.objs.size) { s with heap := s.heap.push o }) :
    ∀ (t : Sem α) (g : Addr → Option α), peek1 K ⟨M.prog, M.w.params⟩ t = some (o, g) → (∀ D, g D = some (r D)) → wpAny M A t Q E s := by
  intro t
  induction t with
  | rule _ k ih => intro g e hg Γ p hΓ; exact ih () g e hg Γ p hΓ
  | point _ k ih => intro g e hg Γ p hΓ; exact ih () g e hg Γ p hΓ
  | ask k ih => intro g e hg Γ p hΓ; exact ih _ g e hg Γ p hΓ
  | load a _ k ih =>
    intro g e hg Γ p hΓ
    simp only [peek1] at e
    split at e
    · rename_i ob ho; exact ⟨ob, X _ _ ho, ih ob g e hg Γ p hΓ⟩
    · cases e
  | alloc ob k _ =>
    intro g e hg
    have e : some (ob, fun D => peek K ⟨M.prog, M.w.params⟩ (k D)) = some (o, g) := e
    obtain ⟨e1, e2⟩ := Prod.mk.inj (Option.some.inj e)
    subst e1
    subst e2
    have X' : K.In (s.heap.push ob) := X.keeps fun b x hb => Heap.get?_push_of_some _ hb
    show wpAny M A (alloc ob >>= k) Q E s
    refine wpAny_bind (wpAny_alloc ?_)
    exact (Looks.of_peek (M := M) (h := s.heap.push ob) X' (hg s.heap.objs.size)).here (s := { s with heap := s.heap.push ob }) q
  | _ => intro g e; cases e

theorem enterStar {R : Result → Shared → Prop} {name qual : Str} {params : Arguments} {body : List Stmt} {scope : Scope} {dV kV doc pm cdv ct oc : Value} {an od : Option Addr} {osl : Array (Option Value)} {f : Addr} {args : Args} {vs : List Value} {g₁ : Addr → Option (List (Str × Value))} {binds : Addr → List (Str × Value)}
    (W : WF w mean mg mb s.heap)
    (ho : (hd.heap_1 w.params).lookup f = some ⟨oc, od, .func (fnOf name qual params body scope dV kV doc pm an cdv ct), osl⟩) (hcd : codeIn (hd.heap_1 w.params) cdv qual = true) (hroom : A.depth < recursionLimit)
    (hp : peek1 (hd.heap_1 w.params) ⟨PySem.Challenge.rw_ik0054_01.row.prog, w.params⟩ (bindArgs (fnOf name qual params body scope dV kV doc pm an cdv ct) args) = some (({ cls := .type "tuple", data := .seq vs.toArray } : Obj), g₁))
    (hg : ∀ D, g₁ D = some (binds D)) (hloc : ∀ D, ∀ y ∈ binds D, scope.names.lookup y.1 = some .local)
    (h : ∀ D g L' h₁, Fr g L' h₁ (fun y => (binds D).reverse.lookup y) → News g L' h₁ [(D, ({ cls := .type "tuple", data := .seq vs.toArray } : Obj))] → (hd.heap_1 w.params).In g → Top vw (looseW vw []) mean mg mb g → g = s.heap →
      wpAny (MD w) (A.deeper (envOf qual scope L' f cdv)) (execs body (envOf qual scope L' f cdv))
        (fun fl s' => R (.ok (.ret (match fl with | .ret v => v | _ => .none))) s')
        (fun e s' => wpAny (MD w) (A.deeper (envOf qual scope L' f cdv)) (leaving (envOf qual scope L' f cdv) e) (fun _ s'' => R (.error e) s'') (fun e' s'' => R (.error e') s'') s')
        { s with heap := h₁, toks := s.toks + (binds D).length })
    (hco : scope.isCoroutine = false) (hgen : scope.isGenerator = false) (hk : scope.kind = .function)
    (hcell : ∀ x ∈ scope.names, x.2 ≠ .cell) : codeAny (MD w) A (.call (.ref f) args) R s := by
  refine codeAny_call_function (fd := fnOf name qual params body scope dV kV doc pm an cdv ct) (body := body) hroom (W.K _ _ ho) rfl hco hgen rfl (codeRec_of W.K hcd) ?_
  refine wp_peek1 (o := ({ cls := .type "tuple", data := .seq vs.toArray } : Obj)) (r := binds) W.K ?_ _ g₁ hp hg
  refine wpAny_newFunctionEnv hcell (hloc _) (fun h₁ hns hsb => ⟨(W.T.nolimit.keeps fun b o e => Heap.get?_push_of_some _ e).fresh _ hsb, codeAny_func ?_⟩) hk
  have hk₁ : ∀ b o, (s.heap.push ({ cls := .type "tuple", data := .seq vs.toArray } : Obj)).get? b = some o → h₁.get? b = some o := fun b o e => hsb.extBut b o (Nat.ne_of_lt (Heap.lt_size e)) (Heap.get?_push_of_some _ e)
  have hD := Heap.get?_push_size s.heap (o := ({ cls := .type "tuple", data := .seq vs.toArray } : Obj)) rfl
  refine h s.heap.objs.size s.heap _ h₁ ⟨hns, fun b o e => hk₁ b o (Heap.get?_push_of_some _ e), ?_⟩ (fun p hp => ?_) W.K W.T rfl
  · rw [Heap.size_push]; exact Nat.le_succ _
  · obtain rfl := List.mem_singleton.mp hp
    refine ⟨hk₁ _ _ hD, ?_, Heap.get?_none_of_le (Nat.le_refl _)⟩
    show s.heap.objs.size ≠ (s.heap.push _).objs.size
    rw [Heap.size_push]; exact Nat.ne_of_lt (Nat.lt_succ_self _)
end

end
section
/-- the walk begins anew -/
theorem anewR1 {M : Model} {A : Around} {E : Value → Shared → Prop} {Q : Value → Shared → Prop} {s : Shared} {env : Env} (h : ∀ v s', Q v s') : wpAny M A (eval (.Constant (.int 0) 0 ⟨0, 0, 0, 0⟩) env) Q E s := by
  w_top off
  first
    | (walk1; exact h _ _)
    | exact wpAny_Constant_int (h _ _)
section
variable {prog : Program} {w : World} {A : Around} {E : Value → Shared → Prop} {s : Shared}
theorem code_meets {id : String} {B : Builtin} {args : List Value} {S : PySem.Spec} {R : Result → Shared → Prop} (kind : builtinKind id = none) (plain : plainId id = true)
    (entry : entryFor table id = some B) (ok : argsOk id ⟨args, []⟩) (g : Meets (B ⟨args, []⟩) S) (h : S A R s) : codeAny (model prog w) A (.call (.builtin id) ⟨args, []⟩) R s := by
  refine codeAny_call_builtin plain entry ?_
  have hfin := g prog w A R s h
  simp only [checkBuiltinCall, kind]
  cases hsig : Manifest.signature? id with
  | none => exact wpAny_pure hfin
  | some sig =>
    simp only [argsOk, hsig] at ok
    have h2 : Bind.checkArgs id sig ⟨args, []⟩ = pure () := ok
    show wpAny _ _ (Bind.checkArgs id sig ⟨args, []⟩) _ _ s
    rw [h2]; exact wpAny_pure hfin
theorem kind_issubn : builtinKind "issubclass.nested" = none := by decide +kernel
theorem plain_issubn : plainId "issubclass.nested" = true := by decide +kernel
theorem args_issubn (a b c : Value) : argsOk "issubclass.nested" ⟨[a, b, c], []⟩ := by unfold argsOk; kernel_rfl
theorem meta_str : typeOf (.type "str") = pure (.type "type") := by kernel_rfl
theorem sub_str : isSubtype (.type "str") (.type "str") = pure true := by rw [isSubtype_type]; kernel_rfl
theorem issub_nested_str {k : Value} {dep : Int} {tk : Tok} {Q : Fin → Shared → Prop} (hk : k = .int dep tk) (hq : Q (.done (.ret (.bool true))) s) :
    wpAny (model prog w) A (Builtin.«issubclass.nested» ⟨[.type "str", .type "str", k], []⟩) Q E s := by
  subst hk
  have hm := meta_str
  have hself := sub_str
  repeat (any_goals (first | assumption | (rw [if_pos hm]) | (rw [hself]) | wp_step))
theorem issub_nested_tuple {tp : Addr} {tk : Tok} {Q : Fin → Shared → Prop}
    (htp : s.heap.get? tp = some { cls := .type "tuple", data := .seq #[.type "str", .type "bytes"] })
    (hq : ∀ tk', Q (.done (.ret (.bool true))) { s with toks := tk' }) : wpAny (model prog w) A (Builtin.«issubclass.nested» ⟨[.type "str", .ref tp, .int 0 tk], []⟩) Q E s := by
  obtain ⟨h, g, d, t, os⟩ := s
  have hT2 : (⟨h, g, d, t, os⟩ : Shared).TypeIs (.ref tp) "tuple" := ⟨_, htp, rfl⟩
  have f1 := F.isi_sub_tuple
  repeat (any_goals (first | assumption | wp_step))
  show codeAny _ _ (.call (.builtin "issubclass.nested") ⟨[.type "str", .type "str", rawInt 1], []⟩) _ _
  refine code_meets kind_issubn plain_issubn F.entry_issubclass_nested (args_issubn _ _ _) (S := fun _ R s => R (.ok (.ret (.bool true))) s) (fun _ _ _ _ _ hs => issub_nested_str rfl hs) ?_
  show wpAny _ _ (truthy (.bool true) >>= _) _ _ _
  refine wpAny_bind (m := truthy (.bool true)) (wpAny_pure ?_)
  refine wpAny_bind (wpAny_pure (wpAny_pure ?_))
  repeat (any_goals (first | assumption | wp_step))
  exact hq _
theorem call_issub_str {tp : Addr} {Q : Value → Shared → Prop} (htp : s.heap.get? tp = some { cls := .type "tuple", data := .seq #[.type "str", .type "bytes"] })
    (h : ∀ tk', Q (.bool true) { s with toks := tk' }) : wpAny (model prog w) A (call (.builtin "issubclass") [.type "str", .ref tp]) Q E s :=
  call_issubclass (S := fun _ R s => s.heap.get? tp = some { cls := .type "tuple", data := .seq #[.type "str", .type "bytes"] } ∧ ∀ tk', R (.ok (.ret (.bool true))) { s with toks := tk' })
    (fun _ _ _ _ _ hs => issubclass_outer (issub_nested_tuple hs.1 hs.2)) ⟨htp, h⟩
end

end
section
/-- the walk begins anew -/
theorem anewL1 {M : Model} {A : Around} {E : Value → Shared → Prop} {Q : Value → Shared → Prop} {s : Shared} {env : Env} (h : ∀ v s', Q v s') : wpAny M A (eval (.Constant (.int 0) 0 ⟨0, 0, 0, 0⟩) env) Q E s := by
  w_top off
  first
    | (walk1; exact h _ _)
    | exact wpAny_Constant_int (h _ _)
/-- what a frame's map says of some names -/
def Has (m : Str → Option Value) : List (Str × Option Value) → Prop
  | [] => True
  | p :: r => m p.1 = p.2 ∧ Has m r
/-- a frame's map with some names known -/
def over : List (Str × Option Value) → (Str → Option Value) → Str → Option Value
  | [], m => m
  | p :: r, m => fun y => if y = p.1 then p.2 else over r m y
theorem over_eq {m : Str → Option Value} : ∀ {ps : List (Str × Option Value)}, Has m ps → over ps m = m
  | [], _ => rfl
  | p :: r, h => by
    funext y
    show (if y = p.1 then p.2 else over r m y) = m y
    split
    · rename_i e; rw [e]; exact h.1.symm
    · rw [over_eq h.2]
theorem frOver {g h : Heap} {L : Addr} {m : Str → Option Value} {ps : List (Str × Option Value)} (F : Fr g L h m) (k : Has m ps) : Fr g L h (over ps m) := by
  rw [over_eq k]; exact F
theorem has_keep (m : Str → Option Value) : ∀ keep : List Str, Has m (keep.map fun y => (y, m y))
  | [] => trivial
  | _ :: r => ⟨rfl, has_keep m r⟩
theorem Has.append {m : Str → Option Value} : ∀ {ps qs : List (Str × Option Value)}, Has m ps → Has m qs → Has m (ps ++ qs)
  | [], _, _, k => k
  | _ :: _, _, h, k => ⟨h.1, h.2.append k⟩
section
variable {prog : Program} {w : World} {A : Around} {E : Value → Shared → Prop} {Q : Flow → Shared → Prop} {s : Shared} {env : Env} {h₀ : Heap}

/-- what a turn leaves -/
def TurnEnd {σ : Type} (h₀ : Heap) (L : Addr) (Led : σ → List (Addr × Obj)) (ps : σ → List (Str × Option Value)) (extra : List (Addr × Obj)) (P : σ → Prop) (s s₃ : Shared) : Prop :=
  ∃ h' tk' m' news' c', s₃ = { s with heap := h', toks := tk' } ∧ Fr h₀ L h' m' ∧ News h₀ L h' news' ∧ (∀ p ∈ Led c' ++ extra, p ∈ news') ∧ Has m' (ps c') ∧ P c'
theorem TurnEnd.mk {σ : Type} {h₀ h' : Heap} {L : Addr} {Led : σ → List (Addr × Obj)} {ps : σ → List (Str × Option Value)} {extra news' : List (Addr × Obj)} {P : σ → Prop} {s : Shared} {tk' : Nat} {m' : Str → Option Value} (c' : σ)
    (F : Fr h₀ L h' m') (N : News h₀ L h' news') (sub : ∀ p ∈ Led c' ++ extra, p ∈ news') (has : Has m' (ps c')) (hp : P c') : TurnEnd h₀ L Led ps extra P s { s with heap := h', toks := tk' } :=
  ⟨h', tk', m', news', c', rfl, F, N, sub, has, hp⟩
def TurnPost {σ : Type} (h₀ : Heap) (L : Addr) (Led : σ → List (Addr × Obj)) (ps : σ → List (Str × Option Value)) (extra : List (Addr × Obj)) (P : σ → Prop) (Q : Flow → Shared → Prop) (s : Shared) (f : Flow) (s₃ : Shared) : Prop :=
  match f with
  | .ret v => Q (.ret v) s₃
  | .brk => Q .next s₃
  | .next => TurnEnd h₀ L Led ps extra P s s₃
  | .cont => TurnEnd h₀ L Led ps extra P s s₃

theorem while_st {σ : Type} {test : Expr} {body : List Stmt} {pos : Pos} {L : Addr} {m : Str → Option Value} {news : List (Addr × Obj)} (Led : σ → List (Addr × Obj)) (ps : σ → List (Str × Option Value)) (μ : σ → Nat) (P : σ → Prop) (c₀ : σ)
    (F : Fr h₀ L s.heap m) (N : News h₀ L s.heap news) (hN : ∀ p ∈ Led c₀, p ∈ news) (hk : Has m (ps c₀)) (hp : P c₀)
    (turn : ∀ c u h tk, P c → Fr h₀ L h (over (ps c) u) → News h₀ L h (Led c) →
      wpAny (model prog w) A (isTrue test env (eval test env)) (fun b s₂ =>
        if b = true then wpAny (model prog w) A (execs body env) (TurnPost h₀ L Led ps [] (fun c' => μ c' < μ c ∧ P c') Q s) E s₂ else Q .next s₂) E { s with heap := h, toks := tk })
    (hE : PassesOwn (model prog w) A env E := by passes_own) :
    wpAny (model prog w) A (exec (.While test body [] pos) env) Q E s := by
  refine While_inv2 (fun n m nx => ∃ c : σ, nx = Led c ∧ μ c = n ∧ Has m (ps c) ∧ P c) F (fun p hp => N p (hN p hp)) ⟨c₀, rfl, rfl, hk, hp⟩ ?_ hE
  rintro n m₁ nx h tk F₁ N₁ ⟨c, rfl, rfl, hk₁, hp₁⟩
  refine wpAny_mono (turn c m₁ h tk hp₁ (frOver F₁ hk₁) N₁) (fun b s₂ h₂ => ?_) fun _ _ e => e
  cases b with
  | false => simpa using h₂
  | true =>
    simp only [if_true] at h₂ ⊢
    refine wpAny_mono h₂ (fun f s₃ h₃ => ?_) fun _ _ e => e
    cases f with
    | ret v => exact h₃
    | brk => exact h₃
    | next =>
      obtain ⟨h', tk', m', news', c', rfl, F', N', hn', hk', hμ, hp'⟩ := h₃
      exact ⟨h', tk', m', Led c', μ c', rfl, F', fun p hp => N' p (hn' p (by simpa using hp)), hμ, c', rfl, rfl, hk', hp'⟩
    | cont =>
      obtain ⟨h', tk', m', news', c', rfl, F', N', hn', hk', hμ, hp'⟩ := h₃
      exact ⟨h', tk', m', Led c', μ c', rfl, F', fun p hp => N' p (hn' p (by simpa using hp)), hμ, c', rfl, rfl, hk', hp'⟩

theorem for_list {σ : Type} {l : Addr} {vs : List Value} {nn : Nat} {x : Str} {body : List Stmt} {m₀ : Str → Option Value} {news : List (Addr × Obj)} (Led : σ → List (Addr × Obj)) (ps : σ → List (Str × Option Value)) (P : Nat → σ → Prop) (c₀ : σ)
    (hh : A.handled = none) (hl : s.heap.get? l = some (listOf vs.toArray nn)) (F : Fr h₀ env.locals s.heap m₀) (N : News h₀ env.locals s.heap news)
    (hN : ∀ p ∈ Led c₀, p ∈ news) (hk : Has m₀ (ps c₀)) (hp : P 0 c₀)
    (stay : ∀ c h m, Fr h₀ env.locals h m → News h₀ env.locals h (Led c) → h.get? l = some (listOf vs.toArray nn))
    (turn : ∀ i v c u I oI h tk, vs[i]? = some v → P i c → (∀ p ∈ Led c, p.1 ≠ I) → Fr h₀ env.locals h (fun y => if y = x then some v else over (ps c) u y) → News h₀ env.locals h (Led c ++ [(I, oI)]) →
      wpAny (model prog w) A (execs body env) (TurnPost h₀ env.locals Led ps [(I, oI)] (fun c' => P (i + 1) c' ∧ ∀ p ∈ Led c', p.1 ≠ I) Q s) E { s with heap := h, toks := tk })
    (done : ∀ c u h tk, P vs.length c → Fr h₀ env.locals h (over (ps c) u) → News h₀ env.locals h (Led c) → Q .next { s with heap := h, toks := tk }) :
    wpAny (model prog w) A (pyIter (.ref l)) (fun it s₂ => LoopAtV prog w A h₀ env x body Q E it s₂) E s := by
  have hls : s.heap.IsList l vs.toArray := ⟨_, hl, rfl, nn, rfl⟩
  have hne : l ≠ s.heap.objs.size := Nat.ne_of_lt (Heap.lt_size hl)
  have hLl : env.locals ≠ l := by
    rintro e
    obtain ⟨oL, _, _, hL, hLd, _⟩ := F.ns
    rw [e, hl] at hL
    cases hL
    cases hLd
  refine wpAny_pyIter_list hls ?_
  have W := Walks.list (prog := prog) (w := w) hh s.heap.objs.size l hne vs.toArray
  have hlen : vs.toArray.size = vs.length := by simp
  rw [hlen] at W
  refine ⟨_, _, _, vs.length, _, _, m₀, Led c₀, (fun i m nx => ∃ c, nx = Led c ∧ Has m (ps c) ∧ P i c), rfl, W, ?_, ?_, ?_, ⟨⟨_, Heap.get?_push_size _ rfl, rfl, rfl⟩, hls.at fun o e => Heap.get?_push_of_some _ e⟩, F.push _, (fun p hp => ⟨Heap.get?_push_of_some _ (N p (hN p hp)).1, (N p (hN p hp)).2⟩), ⟨c₀, rfl, hk, hp⟩, ?_, ?_⟩
  · intro hm
    rcases List.mem_cons.mp hm with e | hm
    · exact absurd F.ns.lt (e ▸ Nat.lt_irrefl _)
    · exact hLl (List.mem_singleton.mp hm)
  · intro b hb
    rw [List.mem_singleton.mp hb]
    exact next_is_new F
  · intro p hp hI
    exact absurd (Heap.lt_size (N p (hN p hp)).1) ((List.mem_singleton.mp hI) ▸ Nat.lt_irrefl _)
  · rintro i v m₁ news₁ s₁ own ⟨hh', tk', rfl⟩ hin hP ⟨c, rfl, hk₁, hp₁⟩ hoff hown hget hfp hst F₁ N₁
    have hP' : vs[i]? = some v := by simpa using hP
    have hI0 : h₀.get? s.heap.objs.size = none := next_is_new F
    obtain ⟨⟨oI, hoI, _⟩, _⟩ := id hst
    have hIown : (s.heap.objs.size, oI) ∈ own := hfp _ (List.mem_cons.mpr (.inl rfl)) hI0 _ hoI
    have hne' : ∀ p ∈ Led c, p.1 ≠ s.heap.objs.size := fun p hp e => hoff p hp (List.mem_singleton.mpr e)
    have F₂ : Fr h₀ env.locals hh' (fun y => if y = x then some v else over (ps c) m₁ y) := by rw [over_eq hk₁]; exact F₁
    have N₂ : News h₀ env.locals hh' (Led c ++ [(s.heap.objs.size, oI)]) := fun p hp => N₁ p ((List.mem_append.mp hp).elim (fun h => List.mem_append.mpr (.inr h)) fun h => List.mem_append.mpr (.inl ((List.mem_singleton.mp h) ▸ hIown)))
    refine wpAny_mono (turn i v c m₁ _ oI hh' tk' hP' hp₁ hne' F₂ N₂) (fun f s₂ p => ?_) fun _ _ e => e
    have fin : TurnEnd h₀ env.locals Led ps [(s.heap.objs.size, oI)] (fun c' => P (i + 1) c' ∧ ∀ p ∈ Led c', p.1 ≠ s.heap.objs.size) s s₂ →
        LoopStepU h₀ env.locals [s.heap.objs.size] own (fun m nx => ∃ c, nx = Led c ∧ Has m (ps c) ∧ P (i + 1) c) { s with heap := hh', toks := tk' } .next s₂ := by
      rintro ⟨h', tk, m', news', c', rfl, F', N', hn, hk', hp', hof⟩
      have N3 : News h₀ env.locals h' (Led c') := fun p hp => N' p (hn p (List.mem_append_left _ hp))
      refine ⟨rfl, h', tk, m', Led c', rfl, F', fun p hp => ?_, fun p hp hq => hof p hp (List.mem_singleton.mp hq), c', rfl, hk', hp'⟩
      rcases List.mem_append.mp hp with h | h
      · by_cases hI : p.1 = s.heap.objs.size
        · have e1 := hget p h
          rw [hI] at e1
          have e2 : p = (s.heap.objs.size, oI) := Prod.ext hI (Option.some.inj (e1.symm.trans hoI))
          rw [e2]
          exact N' _ (hn _ (List.mem_append_right _ (.head _)))
        · have h1 : p.1 = l := by
            rcases List.mem_cons.mp (hown p h) with h2 | h2
            · exact absurd h2 hI
            · exact List.mem_singleton.mp h2
          have h2 : hh'.get? p.1 = some p.2 := hget p h
          have h3 := stay c hh' _ F₂ fun q hq => N₁ q (List.mem_append_right _ hq)
          rw [h1, h3] at h2
          refine ⟨?_, (N₁ p (List.mem_append_left _ h)).2⟩
          rw [h1, ← h2]
          exact stay c' h' _ F' N3
      · exact N3 p h
    cases f with
    | ret v => exact .ret p
    | brk => exact .brk p
    | next => exact .next (fin p)
    | cont => exact .cont (fin p)
  · rintro h' tk m' news' F' N' _ ⟨c, rfl, hk', hp'⟩
    exact done c m' h' tk hp' (frOver F' hk') N'
/-- the names of a loop: those that a turn stores, those that stay -/
abbrev names (own : List (Str × Value)) (keep : List Str) (m₀ : Str → Option Value) : List (Str × Option Value) := own.map (fun p => (p.1, some p.2)) ++ keep.map fun y => (y, m₀ y)

theorem while_k {σ : Type} {test : Expr} {body : List Stmt} {pos : Pos} {L : Addr} {m₀ : Str → Option Value} {news : List (Addr × Obj)} (Led : σ → List (Addr × Obj)) (own : σ → List (Str × Value)) (keep : List Str) (μ : σ → Nat) (P : σ → Prop) (c₀ : σ)
    (F : Fr h₀ L s.heap m₀) (N : News h₀ L s.heap news) (hN : ∀ p ∈ Led c₀, p ∈ news) (hk : Has m₀ ((own c₀).map fun p => (p.1, some p.2))) (hp : P c₀)
    (turn : ∀ c u h tk, P c → Fr h₀ L h (over (names (own c) keep m₀) u) → News h₀ L h (Led c) →
      wpAny (model prog w) A (isTrue test env (eval test env)) (fun b s₂ =>
        if b = true then wpAny (model prog w) A (execs body env) (TurnPost h₀ L Led (fun c => names (own c) keep m₀) [] (fun c' => μ c' < μ c ∧ P c') Q s) E s₂ else Q .next s₂) E { s with heap := h, toks := tk })
    (hE : PassesOwn (model prog w) A env E := by passes_own) :
    wpAny (model prog w) A (exec (.While test body [] pos) env) Q E s :=
  while_st Led (fun c => names (own c) keep m₀) μ P c₀ F N hN (hk.append (has_keep m₀ keep)) hp turn hE

theorem for_k {σ : Type} {l : Addr} {vs : List Value} {nn : Nat} {x : Str} {body : List Stmt} {m₀ : Str → Option Value} {news : List (Addr × Obj)} (Led : σ → List (Addr × Obj)) (own : σ → List (Str × Value)) (keep : List Str) (P : Nat → σ → Prop) (c₀ : σ)
    (hh : A.handled = none) (hl : s.heap.get? l = some (listOf vs.toArray nn)) (F : Fr h₀ env.locals s.heap m₀) (N : News h₀ env.locals s.heap news)
    (hN : ∀ p ∈ Led c₀, p ∈ news) (hk : Has m₀ ((own c₀).map fun p => (p.1, some p.2))) (hp : P 0 c₀)
    (stay : ∀ c h m, Fr h₀ env.locals h m → News h₀ env.locals h (Led c) → h.get? l = some (listOf vs.toArray nn))
    (turn : ∀ i v c u I oI h tk, vs[i]? = some v → P i c → (∀ p ∈ Led c, p.1 ≠ I) → Fr h₀ env.locals h (fun y => if y = x then some v else over (names (own c) keep m₀) u y) → News h₀ env.locals h (Led c ++ [(I, oI)]) →
      wpAny (model prog w) A (execs body env) (TurnPost h₀ env.locals Led (fun c => names (own c) keep m₀) [(I, oI)] (fun c' => P (i + 1) c' ∧ ∀ p ∈ Led c', p.1 ≠ I) Q s) E { s with heap := h, toks := tk })
    (done : ∀ c u h tk, P vs.length c → Fr h₀ env.locals h (over (names (own c) keep m₀) u) → News h₀ env.locals h (Led c) → Q .next { s with heap := h, toks := tk }) :
    wpAny (model prog w) A (pyIter (.ref l)) (fun it s₂ => LoopAtV prog w A h₀ env x body Q E it s₂) E s :=
  for_list Led (fun c => names (own c) keep m₀) P c₀ hh hl F N hN (hk.append (has_keep m₀ keep)) hp stay turn done
end

end
section
/-- the walk begins anew -/
theorem anewR2 {M : Model} {A : Around} {E : Value → Shared → Prop} {Q : Value → Shared → Prop} {s : Shared} {env : Env} (h : ∀ v s', Q v s') : wpAny M A (eval (.Constant (.int 0) 0 ⟨0, 0, 0, 0⟩) env) Q E s := by
  w_top off
  first
    | (walk1; exact h _ _)
    | exact wpAny_Constant_int (h _ _)
section
variable {prog : Program} {w : World} {A : Around} {E : Value → Shared → Prop} {s : Shared} {h₀ : Heap} {L : Addr} {m : Str → Option Value} {news news' : List (Addr × Obj)} {D : Addr} {vs ws : List Value} {n : Nat} {x y : Value}
theorem truthy_nil {Q : Bool → Shared → Prop} (N : News h₀ L s.heap news) (hm : (D, listOf #[] n) ∈ news) (h : Q false { s with toks := s.toks + 1 + 1 }) : wpAny (model prog w) A (truthy (.ref D)) Q E s :=
  wpAny_truthy_list (items := #[]) ⟨_, (N _ hm).1, rfl, n, rfl⟩ (by decide) h
theorem truthy_cons {Q : Bool → Shared → Prop} (N : News h₀ L s.heap news) (hm : (D, listOf (x :: ws).toArray n) ∈ news) (hs : ws.length ≤ 100000) (h : Q true { s with toks := s.toks + 1 + 1 }) : wpAny (model prog w) A (truthy (.ref D)) Q E s :=
  wpAny_truthy_list (items := (x :: ws).toArray) ⟨_, (N _ hm).1, rfl, n, rfl⟩ (by simp; omega) (by rw [show (!(x :: ws).toArray.isEmpty) = true from by simp]; exact h)
theorem truthy_snoc {Q : Bool → Shared → Prop} (N : News h₀ L s.heap news) (hm : (D, listOf (ws ++ [x]).toArray n) ∈ news) (hs : ws.length ≤ 100000) (h : Q true { s with toks := s.toks + 1 + 1 }) : wpAny (model prog w) A (truthy (.ref D)) Q E s :=
  wpAny_truthy_list (items := (ws ++ [x]).toArray) ⟨_, (N _ hm).1, rfl, n, rfl⟩ (by simp; omega) (by rw [show (!(ws ++ [x]).toArray.isEmpty) = true from by simp]; exact h)
theorem item_last {value slice : Expr} {u : Tok} {Q : Value → Shared → Prop} (N : News h₀ L s.heap news) (hm : (D, listOf (ws ++ [x]).toArray n) ∈ news) (hs : ws.length ≤ 100000) (h : Q x s)
    (hs' : subscripted slice false (.ref D) (.int (-1) u) = operate [.ref D, .int (-1) u] (getItem (.ref D) (.int (-1) u)) := by with_unfolding_all rfl) (hg : ∀ r, letTemporaryGo value (.ref D) r = pure () := by intro _; with_unfolding_all rfl) :
    wpAny (model prog w) A (subscriptTail value slice (.ref D) (.int (-1) u)) Q E s :=
  kim_back N hm rfl rfl (by decide) (by rw [List.length_append, List.length_singleton]; omega) (by decide) (by rw [show ((-1 : Int) + ((ws ++ [x]).length : Int)).toNat = ws.length from by simp; omega]; simp) h hs' hg
theorem pop_last {Q : Value → Shared → Prop} (F : Fr h₀ L s.heap m) (N : News h₀ L s.heap news) (U : Upd D (listOf (ws ++ [x]).toArray n) (listOf ws.toArray (n + 1)) news news') (hs : ws.length ≤ 100000)
    (h : ∀ h', Fr h₀ L h' m → News h₀ L h' news' → Q x { s with heap := h' }) : wpAny (model prog w) A (call (.builtin "list.pop") [.ref D]) Q E s :=
  kl_pop F N (kpa_last x ws) U (by rw [sizeLine_eq]; simp; omega) h
theorem append_any {Q : Value → Shared → Prop} (F : Fr h₀ L s.heap m) (N : News h₀ L s.heap news) (U : Upd D (listOf vs.toArray n) (listOf (vs ++ [x]).toArray (n + 1)) news news') (hs : vs.length ≤ 100000)
    (h : ∀ h', Fr h₀ L h' m → News h₀ L h' news' → Q .none { s with heap := h' }) : wpAny (model prog w) A (call (.builtin "list.append") [.ref D, x]) Q E s :=
  append_K F N (by rw [show vs.toArray.push x = (vs ++ [x]).toArray from by simp]; exact U) h (by rw [sizeLine_eq]; simp; omega)
theorem len_any {Q : Value → Shared → Prop} (N : News h₀ L s.heap news) (hm : (D, listOf vs.toArray n) ∈ news) (k : Nat) (hk : vs.length = k) (hs : k ≤ 100000) (h : Q (.int (k : Int) (s.toks + 1)) { s with toks := s.toks + 1 + 1 }) : wpAny (model prog w) A (call (.builtin "len") [.ref D]) Q E s :=
  PyProof.Rows.len_list (items := vs.toArray) ⟨_, (N _ hm).1, rfl, n, rfl⟩ (by simp; omega) (by subst hk; simpa using h)
end

end
section
/-- the walk begins anew -/
theorem anewR3 {M : Model} {A : Around} {E : Value → Shared → Prop} {Q : Value → Shared → Prop} {s : Shared} {env : Env} (h : ∀ v s', Q v s') : wpAny M A (eval (.Constant (.int 0) 0 ⟨0, 0, 0, 0⟩) env) Q E s := by
  w_top off
  first
    | (walk1; exact h _ _)
    | exact wpAny_Constant_int (h _ _)
open AutoSeq1 (wpAny_loadPart')
open MeetsSeq MeetsSeq3

def strLt (x y : Str) : Bool := decide (x.cps.toList < y.cps.toList)
def entLt (p q : Int × Str) : Bool := if p.1 == q.1 then (if p.2 == q.2 then false else strLt p.2 q.2) else decide (p.1 < q.1)

section
variable {prog : Program} {w : World} {A : Around} {E : Value → Shared → Prop} {s : Shared}
theorem lt_loop2 (l b : Addr) (I J : Array Value) (n n2 : Nat) (hI : I.size = 2) (hJ : J.size = 2) :
    Meets (Builtin.«list.__eq__.loop» ⟨[.ref l, .ref b, rawInt 2, rawInt 0], []⟩)
      (fun _ R s => s.heap.get? l = some (listOf I n) ∧ s.heap.get? b = some (listOf J n2) ∧ R (.ok (.ret (.bool false))) s) := by
  intro prog w A R s h
  obtain ⟨hp, g, d, tk, os⟩ := s; obtain ⟨hl, hb, h⟩ := h
  wp_walk using wpAny_loadPart' hl, wpAny_loadPart' hb
  rw [show I[(2 : Int).toNat]? = none from by simp; omega, show J[(2 : Int).toNat]? = none from by simp; omega]
  wp_walk using wpAny_loadPart' hl, wpAny_loadPart' hb
  show R (.ok (.ret (.bool (decide (I.size < J.size))))) _
  rw [hI, hJ]
  exact h
theorem lt_loop1 (l b : Addr) (I J : Array Value) (x y : Str) (u v : Tok) (n n2 : Nat) (hI : I.size = 2) (hJ : J.size = 2) (hI1 : I[1]? = some (.str x u)) (hJ1 : J[1]? = some (.str y v)) :
    Meets (Builtin.«list.__eq__.loop» ⟨[.ref l, .ref b, rawInt 1, rawInt 0], []⟩)
      (fun _ R s => s.heap.get? l = some (listOf I n) ∧ s.heap.get? b = some (listOf J n2) ∧ R (.ok (.ret (.bool (if x == y then false else strLt x y)))) s) := by
  intro prog w A R s h
  obtain ⟨hp, g, d, tk, os⟩ := s; obtain ⟨hl, hb, h⟩ := h
  have h1 : I[(1 : Int).toNat]? = some (.str x u) := hI1
  have h2 : J[(1 : Int).toNat]? = some (.str y v) := hJ1
  wp_walk using wpAny_loadPart' hl, wpAny_loadPart' hb
  rw [h1, h2]
  refine wpAny_bind (eqGives_str x y u v prog w _ _ _ _ ?_)
  cases hxy : x == y with
  | true =>
    rw [hxy] at h
    wp_walk
    exact ⟨plainId_quiet plain_eq_loop _, codeAny_builtin entry_eq_loop (by
        rw [Around.under_plainId plain_eq_loop _]
        exact lt_loop2 l b I J n n2 hI hJ prog w A R _ ⟨hl, hb, by simpa using h⟩)⟩
  | false =>
    rw [hxy] at h
    wp_walk using wpAny_loadPart' hl, wpAny_loadPart' hb
    rw [h1, h2]
    refine wpAny_bind (lt_str ?_)
    wp_walk
    exact h
theorem lt_loop0 (l b : Addr) (I J : Array Value) (i j : Int) (x y : Str) (t t' u v : Tok) (n n2 : Nat) (hI : I.size = 2) (hJ : J.size = 2) (hI0 : I[0]? = some (.int i t)) (hJ0 : J[0]? = some (.int j t')) (hI1 : I[1]? = some (.str x u)) (hJ1 : J[1]? = some (.str y v)) :
    Meets (Builtin.«list.__eq__.loop» ⟨[.ref l, .ref b, rawInt 0, rawInt 0], []⟩)
      (fun _ R s => s.heap.get? l = some (listOf I n) ∧ s.heap.get? b = some (listOf J n2) ∧ R (.ok (.ret (.bool (entLt (i, x) (j, y))))) s) := by
  intro prog w A R s h
  obtain ⟨hp, g, d, tk, os⟩ := s; obtain ⟨hl, hb, h⟩ := h
  have h1 : I[(0 : Int).toNat]? = some (.int i t) := hI0
  have h2 : J[(0 : Int).toNat]? = some (.int j t') := hJ0
  unfold entLt at h
  dsimp only at h
  wp_walk using wpAny_loadPart' hl, wpAny_loadPart' hb
  rw [h1, h2]
  refine wpAny_bind (EqGives.int i j t t' prog w _ _ _ _ ?_)
  cases hxy : i == j with
  | true =>
    rw [hxy] at h
    wp_walk
    exact ⟨plainId_quiet plain_eq_loop _, codeAny_builtin entry_eq_loop (by
        rw [Around.under_plainId plain_eq_loop _]
        exact lt_loop1 l b I J x y u v n n2 hI hJ hI1 hJ1 prog w A R _ ⟨hl, hb, by simpa using h⟩)⟩
  | false =>
    rw [hxy] at h
    wp_walk using wpAny_loadPart' hl, wpAny_loadPart' hb
    rw [h1, h2]
    refine wpAny_bind (PyProof.Rows.lt_int ?_)
    wp_walk
    exact h
theorem list_lt (l b : Addr) (I J : Array Value) (i j : Int) (x y : Str) (t t' u v : Tok) (n n2 : Nat) (hI : I.size = 2) (hJ : J.size = 2) (hI0 : I[0]? = some (.int i t)) (hJ0 : J[0]? = some (.int j t')) (hI1 : I[1]? = some (.str x u)) (hJ1 : J[1]? = some (.str y v)) :
    Meets (Builtin.«list.__lt__» ⟨[.ref l, .ref b], []⟩)
      (fun _ R s => s.heap.get? l = some (listOf I n) ∧ s.heap.get? b = some (listOf J n2) ∧ R (.ok (.ret (.bool (entLt (i, x) (j, y))))) s) := by
  intro prog w A R s h
  obtain ⟨hp, g, d, tk, os⟩ := s; obtain ⟨hl, hb, h⟩ := h
  have f3 := AutoSeq1.sub_list_list
  wp_walk using wpAny_loadPart' hl, wpAny_loadPart' hb
  exact ⟨plainId_quiet plain_eq_loop _, codeAny_builtin entry_eq_loop (by
    rw [Around.under_plainId plain_eq_loop _]
    exact lt_loop0 l b I J i j x y t t' u v n n2 hI hJ hI0 hJ0 hI1 hJ1 prog w A R _ ⟨hl, hb, h⟩)⟩
theorem lt_ent {l b : Addr} {i j : Int} {x y : Str} {t t' u v : Tok} {n n2 : Nat} {Q : Value → Shared → Prop} (hl : s.heap.get? l = some (listOf #[.int i t, .str x u] n)) (hb : s.heap.get? b = some (listOf #[.int j t', .str y v] n2)) (hu : A.units < cLine)
    (h : Q (.bool (entLt (i, x) (j, y))) s) : wpAny (model prog w) A (compareOp .Lt (.ref l) (.ref b)) Q E s :=
  richCompare_meets_room (op := .Lt) ⟨_, hl, rfl⟩ ⟨_, hb, rfl⟩ F.slot_list_lt F.entry_list_lt (F.args_list_lt_2 _ _) (list_lt l b _ _ i j x y t t' u v n n2 rfl rfl rfl rfl rfl rfl)
    ⟨hl, hb, show Value.bool (entLt (i, x) (j, y)) ≠ Value.notImplemented ∧ Q (.bool (entLt (i, x) (j, y))) s from ⟨(fun x => nomatch x), h⟩⟩ hu
end

end
section
/-- the walk begins anew -/
theorem anewR4 {M : Model} {A : Around} {E : Value → Shared → Prop} {Q : Value → Shared → Prop} {s : Shared} {env : Env} (h : ∀ v s', Q v s') : wpAny M A (eval (.Constant (.int 0) 0 ⟨0, 0, 0, 0⟩) env) Q E s := by
  w_top off
  first
    | (walk1; exact h _ _)
    | exact wpAny_Constant_int (h _ _)
section
variable {prog : Program} {w : World} {A : Around} {E : Value → Shared → Prop} {s : Shared} {h₀ : Heap} {L : Addr} {m : Str → Option Value} {news news' : List (Addr × Obj)} {D D' : Addr} {vs ws : List Value} {n n' : Nat} {x y : Value} {Q : Value → Shared → Prop}
theorem isl (N : News h₀ L s.heap news) (hm : (D, listOf vs.toArray n) ∈ news) : s.heap.IsList D vs.toArray := ⟨_, (N _ hm).1, rfl, n, rfl⟩
theorem ne_empty (hl : s.heap.IsList D vs.toArray) (hb : s.heap.IsList D' #[]) (hu : A.units < cLine) (h : Q (.bool (!vs.isEmpty)) s) : wpAny (model prog w) A (compareOp .NotEq (.ref D) (.ref D')) Q E s := by
  refine cmp_ofNotEq ?_
  cases vs with
  | nil => exact SeqAt.RcNeAt.lists (e := fun _ => true) hl hb rfl hu (fun j h1 _ => absurd h1 (Nat.not_lt_zero _)) prog w E Q h
  | cons v vs => exact SeqAt.RcNeAt.lists_lengths hl hb (by simp) hu prog w E Q h
theorem notIn_strs {xs : List Str} {k : Str} {t : Tok} (hl : s.heap.IsList D vs.toArray) (hi : StrsAre vs xs) (h : Q (.bool (!xs.any (· == k))) s) : wpAny (model prog w) A (compareOp .NotIn (.str k t) (.ref D)) Q E s :=
  SeqAt.notIn_listAt (isStrOf k) hl (fun y hy => (eq_isStrOf k t hi y (by simpa using hy)).at _ _) (by rw [← Array.any_toList, show vs.toArray.toList = vs from rfl, any_isStrOf k hi]; exact h)
theorem in_strs {xs : List Str} {k : Str} {t : Tok} (hl : s.heap.IsList D vs.toArray) (hi : StrsAre vs xs) (h : Q (.bool (xs.any (· == k))) s) : wpAny (model prog w) A (compareOp .In (.str k t) (.ref D)) Q E s :=
  SeqAt.in_listAt (isStrOf k) hl (fun y hy => (eq_isStrOf k t hi y (by simpa using hy)).at _ _) (by rw [← Array.any_toList, show vs.toArray.toList = vs from rfl, any_isStrOf k hi]; exact h)
theorem add_any (F : Fr h₀ L s.heap m) (N : News h₀ L s.heap news) (hl : s.heap.IsList D vs.toArray) (hb : s.heap.IsList D' ws.toArray) (hz : vs.length + ws.length ≤ 100000)
    (h : ∀ B h', Fr h₀ L h' m → News h₀ L h' ((B, listOf (vs ++ ws).toArray 0) :: news) → (∀ p ∈ news, p.1 < B) → Q (.ref B) { s with heap := h' }) : wpAny (model prog w) A (binaryOp .Add (.ref D) (.ref D')) Q E s :=
  add_lists (hsz := by rw [sizeLine_eq]; omega) F N hl hb fun h' F' N' => h _ h' F' N' fun p hp => Heap.lt_size (N p hp).1
theorem item_dict {d : Addr} {kvs : List (Str × Value)} {k : Str} {t : Tok} {v : Value} {value slice : Expr} (hd : s.heap.DictOf (PySem.strKind prog w) d kvs) (hv : valueAt kvs k = some v) (h : Q v { s with toks := s.toks + 1 })
    (hs : subscripted slice false (.ref d) (.str k t) = operate [.ref d, .str k t] (getItem (.ref d) (.str k t)) := by with_unfolding_all rfl) : wpAny (model prog w) A (subscriptTail value slice (.ref d) (.str k t)) Q E s :=
  tail_any hd.typeIs slot_dict_getitem.lookup (wpAny_getItem_of (knd := PySem.strKind prog w) (k := k) (by simp [PySem.strKind, Value.isStrOf]) hd.mapOf hv h) hs
end

end
section
/-- the walk begins anew -/
theorem anewR5 {M : Model} {A : Around} {E : Value → Shared → Prop} {Q : Value → Shared → Prop} {s : Shared} {env : Env} (h : ∀ v s', Q v s') : wpAny M A (eval (.Constant (.int 0) 0 ⟨0, 0, 0, 0⟩) env) Q E s := by
  w_top off
  first
    | (walk1; exact h _ _)
    | exact wpAny_Constant_int (h _ _)
section
variable {prog : Program} {w : World} {A : Around} {E : Value → Shared → Prop} {s : Shared} {h₀ : Heap} {L l : Addr} {m : Str → Option Value} {news news' : List (Addr × Obj)} {vs ws : List Value} {n n' : Nat} {Q : Value → Shared → Prop} {value slice : Expr}
theorem pick_init (vs : List Value) : (slicePick vs.toArray none (some (-1)) none).toList = vs.dropLast := by
  have e : sliceBounds none (some (-1)) none vs.toArray.size = (((0 : Nat) : Int), ((vs.toArray.size - 1 : Nat) : Int), 1) := by
    simp only [sliceBounds, Option.getD_none, show (1 : Int) > 0 by decide, if_true, show (-1 : Int) < 0 by decide]
    congr 1
    congr 1
    generalize vs.toArray.size = n
    cases n with
    | zero => rfl
    | succ n =>
      rw [show (-1 : Int) + ((n + 1 : Nat) : Int) = (n : Int) by rw [Int.natCast_add, Int.add_comm, Int.add_assoc]; exact Int.add_zero _, Int.min_eq_left (Int.ofNat_le.mpr (Nat.le_succ n)), Int.max_eq_right (Int.natCast_nonneg n)]
      rfl
  rw [kmk_pick_nat _ e]
  show (vs.drop 0).take (vs.toArray.size - 1 - 0) = _
  rw [List.drop_zero, Nat.sub_zero, List.size_toArray, List.dropLast_eq_take]
theorem slice_init {u : Tok} (F : Fr h₀ L s.heap m) (N : News h₀ L s.heap news) (hl : s.heap.IsList l vs.toArray)
    (h : ∀ D h', Fr h₀ L h' m → News h₀ L h' ((D, listOf vs.dropLast.toArray 0) :: news) → (∀ p ∈ news, p.1 < D) → Q (.ref D) { s with heap := h' })
    (hs : subscripted slice false (.ref l) (.ref s.heap.objs.size) = operate [.ref s.heap.objs.size, .ref l] (getItem (.ref l) (.ref s.heap.objs.size))) (ht : ∀ r, letTemporaryGo value (.ref l) r = pure ()) (hz : vs.length ≤ 100000) :
    wpAny (model prog w) A (subscriptTail value slice (.ref l) (.ref s.heap.objs.size)) Q E { s with heap := s.heap.push { cls := .type "slice", data := .fields #[.none, .int (-1) u, .none] } } :=
  kmk_slice_lit F N hl IsPart.none (IsPart.int _ _) (pick_init vs) h hs ht (by rw [sizeLine_eq, List.size_toArray]; omega)
end

end
section
open PySem.MeetsSeq
/-- the walk begins anew -/
theorem anewR6 {M : Model} {A : Around} {E : Value → Shared → Prop} {Q : Value → Shared → Prop} {s : Shared} {env : Env} (h : ∀ v s', Q v s') : wpAny M A (eval (.Constant (.int 0) 0 ⟨0, 0, 0, 0⟩) env) Q E s := by
  w_top off
  first
    | (walk1; exact h _ _)
    | exact wpAny_Constant_int (h _ _)
theorem rm_loop (l : Addr) (items : Array Value) (n : Nat) (x : Value) (e : Value → Bool) (j : Nat) (hj : j < items.size) (hit : e items[j] = true) (hno : ∀ m (hm : m < items.size), m < j → e items[m] = false) (hs1 : items.size ≤ sizeLine) (k : Nat) :
    ∀ i : Nat, j - i = k → i ≤ j → Meets (Builtin.«list.remove.loop» ⟨[.ref l, x, rawInt i], []⟩)
      (fun A R s => s.heap.get? l = some (listOf items n) ∧ (∀ y, y ∈ items → SeqAt.EqAt A.in1 s y x (e y)) ∧ R (.ok (.ret .none)) { s with heap := s.heap.update l (Obj.mapSeq fun xs => xs.eraseIdxIfInBounds j) }) := by
  induction k with
  | zero =>
    intro i hk hij prog w A R s h
    obtain ⟨hp, g, d, tk, os⟩ := s
    obtain ⟨hl, he, h⟩ := h
    obtain rfl : i = j := by omega
    wp_walk using wpAny_loadPart' hl
    rw [show items[((i : Nat) : Int).toNat]? = some items[i] by simp [hj]]
    refine wpAny_bind (he _ (Array.getElem_mem hj) prog w _ _ ?_)
    rw [hit]
    have hz' : (items.eraseIdxIfInBounds i).size ≤ sizeLine + 1 := Nat.le_trans (size_erased items _) (Nat.le_succ_of_le hs1)
    wp_walk using (wpAny_updateSeq hl rfl (hz := hs1) (_hz' := hz')), wpAny_loadPart' hl
    simpa using h
  | succ k ih =>
    intro i hk hij prog w A R s h
    obtain ⟨hp, g, d, tk, os⟩ := s
    obtain ⟨hl, he, h⟩ := h
    have hlt : i < items.size := by omega
    wp_walk using wpAny_loadPart' hl
    rw [show items[((i : Nat) : Int).toNat]? = some items[i] by simp [hlt]]
    refine wpAny_bind (he _ (Array.getElem_mem hlt) prog w _ _ ?_)
    rw [hno i hlt (by omega)]
    wp_walk
    rw [show ((i : Int) + 1) = ((i + 1 : Nat) : Int) by push_cast; rfl]
    exact ⟨plainId_quiet plain_remove_loop _, codeAny_builtin entry_remove_loop (by
      rw [Around.under_plainId plain_remove_loop _]
      exact ih (i + 1) (by omega) (by omega) prog w A R _ ⟨hl, he, h⟩)⟩
theorem rm_none (l : Addr) (items : Array Value) (n : Nat) (x : Value) (e : Value → Bool) (hno : ∀ m (hm : m < items.size), e items[m] = false) (k : Nat) :
    ∀ i : Nat, items.size - i = k → Meets (Builtin.«list.remove.loop» ⟨[.ref l, x, rawInt i], []⟩)
      (fun A R s => s.heap.get? l = some (listOf items n) ∧ (∀ y, y ∈ items → SeqAt.EqAt A.in1 s y x (e y)) ∧ raisesNew "ValueError" A R s) := by
  induction k with
  | zero =>
    intro i hk prog w A R s h
    obtain ⟨hp, g, d, tk, os⟩ := s
    obtain ⟨hl, he, h⟩ := h
    wp_walk using wpAny_loadPart' hl
    rw [show items[((i : Nat) : Int).toNat]? = none by simp; omega]
    wp_walk
    exact_raiseError plainExc_ValueError h.1 h.2
  | succ k ih =>
    intro i hk prog w A R s h
    obtain ⟨hp, g, d, tk, os⟩ := s
    obtain ⟨hl, he, h⟩ := h
    have hlt : i < items.size := by omega
    wp_walk using wpAny_loadPart' hl
    rw [show items[((i : Nat) : Int).toNat]? = some items[i] by simp [hlt]]
    refine wpAny_bind (he _ (Array.getElem_mem hlt) prog w _ _ ?_)
    rw [hno i hlt]
    wp_walk
    rw [show ((i : Int) + 1) = ((i + 1 : Nat) : Int) by push_cast; rfl]
    exact ⟨plainId_quiet plain_remove_loop _, codeAny_builtin entry_remove_loop (by
      rw [Around.under_plainId plain_remove_loop _]
      exact ih (i + 1) (by omega) prog w A R _ ⟨hl, he, h⟩)⟩
section
variable {prog : Program} {w : World} {A : Around} {E : Value → Shared → Prop} {s : Shared} {D : Addr} {vs pre post : List Value} {n : Nat} {v x : Value} {Q : Value → Shared → Prop}
theorem meets_hit (l : Addr) (items : Array Value) (n : Nat) (x : Value) (e : Value → Bool) (j : Nat) (hj : j < items.size) (hit : e items[j] = true) (hno : ∀ m (hm : m < items.size), m < j → e items[m] = false) (hs1 : items.size ≤ sizeLine) :
    Meets (Builtin.«list.remove» ⟨[.ref l, x], []⟩)
      (fun A R s => s.heap.get? l = some (listOf items n) ∧ (∀ y, y ∈ items → SeqAt.EqAt A.in1 s y x (e y)) ∧ R (.ok (.ret .none)) { s with heap := s.heap.update l (Obj.mapSeq fun xs => xs.eraseIdxIfInBounds j) }) := by
  intro prog w A R s h
  obtain ⟨hp, g, d, tk, os⟩ := s
  obtain ⟨hl, he, h⟩ := h
  wp_walk using wpAny_loadPart' hl
  exact ⟨plainId_quiet plain_remove_loop _, codeAny_builtin entry_remove_loop (by
    rw [Around.under_plainId plain_remove_loop _]
    exact rm_loop l items n x e j hj hit hno hs1 _ 0 rfl (Nat.zero_le _) prog w A R _ ⟨hl, he, h⟩)⟩
theorem meets_miss (l : Addr) (items : Array Value) (n : Nat) (x : Value) (e : Value → Bool) (hno : ∀ m (hm : m < items.size), e items[m] = false) :
    Meets (Builtin.«list.remove» ⟨[.ref l, x], []⟩)
      (fun A R s => s.heap.get? l = some (listOf items n) ∧ (∀ y, y ∈ items → SeqAt.EqAt A.in1 s y x (e y)) ∧ raisesNew "ValueError" A R s) := by
  intro prog w A R s h
  obtain ⟨hp, g, d, tk, os⟩ := s
  obtain ⟨hl, he, h⟩ := h
  wp_walk using wpAny_loadPart' hl
  exact ⟨plainId_quiet plain_remove_loop _, codeAny_builtin entry_remove_loop (by
    rw [Around.under_plainId plain_remove_loop _]
    exact rm_none l items n x e hno _ 0 rfl prog w A R _ ⟨hl, he, h⟩)⟩
theorem mapSeq_list (its : Array Value) (n : Nat) (f : Array Value → Array Value) : ∃ n', (listOf its n).mapSeq f = listOf (f its) n' := ⟨_, rfl⟩
theorem remove_hit (hl : s.heap.get? D = some (listOf (pre ++ v :: post).toArray n)) (e : Value → Bool) (he : ∀ y, y ∈ pre ++ v :: post → SeqAt.EqAt A.in1 s y x (e y)) (hit : e v = true) (hno : ∀ y ∈ pre, e y = false) (hz : pre.length + post.length ≤ 100000)
    (h : ∀ h' n', h'.get? D = some (listOf (pre ++ post).toArray n') → Heap.SameBut D s.heap h' → Q .none { s with heap := h' }) : wpAny (model prog w) A (call (.builtin "list.remove") [.ref D, x]) Q E s := by
  have hj : pre.length < (pre ++ v :: post).toArray.size := by simp
  have hget : (pre ++ v :: post).toArray[pre.length] = v := by simp
  refine call_meets PySem.F.slot_list_remove ⟨_, hl, rfl⟩ PySem.F.entry_list_remove (PySem.F.args_list_remove_2 _ _)
    (meets_hit D _ n x e pre.length hj (by rw [hget]; exact hit) (fun m hm hlt => ?_) (by rw [sizeLine_eq]; simp; omega)) ⟨hl, fun y hy => he y (by simpa using hy), ?_⟩
  · refine hno _ ?_
    have e1 : (pre ++ v :: post).toArray[m] = pre[m] := by simp [List.getElem_append, hlt]
    rw [e1]
    exact List.getElem_mem hlt
  · obtain ⟨n', e1⟩ := mapSeq_list (pre ++ v :: post).toArray n fun xs => xs.eraseIdxIfInBounds pre.length
    refine h _ n' ?_ (Heap.SameBut.update ..)
    rw [Heap.get?_update_self _ hl (by rw [e1]; rfl), e1]
    congr 2
    apply Array.toList_inj.mp
    simp [Array.toList_eraseIdxIfInBounds, List.eraseIdx_append_of_length_le]
theorem remove_miss (hl : s.heap.get? D = some (listOf vs.toArray n)) (e : Value → Bool) (he : ∀ y, y ∈ vs → SeqAt.EqAt A.in1 s y x (e y)) (hno : ∀ y ∈ vs, e y = false) (hh : A.handled = none)
    (h : ∀ h' tk a, Heap.NewExc s.heap h' a "ValueError" → E (.ref a) { s with heap := h', toks := tk }) : wpAny (model prog w) A (call (.builtin "list.remove") [.ref D, x]) Q E s := by
  refine call_meets PySem.F.slot_list_remove ⟨_, hl, rfl⟩ PySem.F.entry_list_remove (PySem.F.args_list_remove_2 _ _)
    (meets_miss D _ n x e (fun m hm => hno _ ?_)) ⟨hl, fun y hy => he y (by simpa using hy), hh, h⟩
  have hm' : m < vs.length := by simpa using hm
  have e1 : vs.toArray[m] = vs[m] := by simp
  rw [e1]
  exact List.getElem_mem hm'
end

end
section
/-- the walk begins anew -/
theorem anewB2 {M : Model} {A : Around} {E : Value → Shared → Prop} {Q : Value → Shared → Prop} {s : Shared} {env : Env} (h : ∀ v s', Q v s') : wpAny M A (eval (.Constant (.int 0) 0 ⟨0, 0, 0, 0⟩) env) Q E s := by
  w_top off
  first
    | (walk1; exact h _ _)
    | exact wpAny_Constant_int (h _ _)
section
variable {w : World} {mean : ExcName → Option Value} {mg mb : Str → Option Value} {A : Around} {s : Shared}
theorem enterC {R : Result → Shared → Prop} {name qual : Str} {params : Arguments} {body : List Stmt} {scope : Scope} {dV kV doc pm cdv ct oc : Value} {an od : Option Addr} {osl : Array (Option Value)} {f : Addr} {args : Args} {binds : List (Str × Value)}
    (W : WF w mean mg mb s.heap)
    (ho : (hd.heap_1 w.params).lookup f = some ⟨oc, od, .func (fnOf name qual params body scope dV kV doc pm an cdv ct), osl⟩) (hcd : codeIn (hd.heap_1 w.params) cdv qual = true) (hroom : A.depth < recursionLimit)
    (hbind : BindsTo s (fnOf name qual params body scope dV kV doc pm an cdv ct) args binds)
    (hkind : ∀ n, ∀ x ∈ binds, scope.names.lookup x.1 = some .local ∨ (scope.names.lookup x.1 = some .cell ∧ ((cellsFrom n scope.names []).lookup x.1).isSome = true))
    (hnd : ((cellsFrom 0 scope.names []).map (·.1)).Nodup)
    (h : ∀ g L' h₁ tk cells, Fr g L' h₁ (bindL (envOfC qual scope L' f cdv).kindOf binds fun _ => none) → News g L' h₁ cells → CellsAre (bindC (envOfC qual scope L' f cdv).kindOf binds fun _ => none) (cellsFrom (L' + 1) scope.names []) cells → (hd.heap_1 w.params).In g → Top vw (looseW vw []) mean mg mb g → g = s.heap →
      wpAny (MD w) (A.deeper (envOfC qual scope L' f cdv)) (execs body (envOfC qual scope L' f cdv))
        (fun fl s' => R (.ok (.ret (match fl with | .ret v => v | _ => .none))) s')
        (fun e s' => wpAny (MD w) (A.deeper (envOfC qual scope L' f cdv)) (leaving (envOfC qual scope L' f cdv) e) (fun _ s'' => R (.error e) s'') (fun e' s'' => R (.error e') s'') s')
        { s with heap := h₁, toks := tk })
    (hco : scope.isCoroutine = false) (hgen : scope.isGenerator = false) (hk : scope.kind = .function) : codeAny (MD w) A (.call (.ref f) args) R s := by
  refine codeAny_call_function (fd := fnOf name qual params body scope dV kV doc pm an cdv ct) (body := body) hroom (W.K _ _ ho) rfl hco hgen rfl (codeRec_of W.K hcd) (hbind _ _ _ _ ?_)
  refine wpAny_newFunctionEnv_cells hk (hkind _) fun env' he s' x => ?_
  subst he
  refine ⟨W.T.nolimit.keeps x.toInCall.keep, codeAny_func ?_⟩
  obtain ⟨h₁, tk, rfl, _⟩ := x.done
  have hk₁ := x.toInCall.keep
  obtain ⟨cells, NC, Y⟩ := Cl.news (h₀ := s.heap) (Nat.le_refl _) fun n c hm => ⟨x.cell n c (lookup_of_mem_nodup (cellsFrom_names scope.names 0 (s.heap.objs.size + 1) [] [] rfl ▸ hnd) hm), x.above n c hm⟩
  exact h s.heap s.heap.objs.size h₁ tk cells ⟨x.toInCall.ns, hk₁, Nat.le_refl _⟩ NC Y W.K W.T rfl
end

end
local macro_rules | `(tactic| walk_at "I") => `(tactic| exact isl (by assumption) (by k_mem))
local macro_rules | `(tactic| walk_at "J") => `(tactic| exact isl (vs := []) (by assumption) (by k_mem))
local macro_rules | `(tactic| walk_at "Enter") => `(tactic| ((case kn => exact fun _ h => nomatch h); (case k6 => k_is); (case k7 => k_is); (case k8 => ((try dsimp only); omega)); (case k9 => exact BindsTo.of_eq rfl); (case c5 => decide); (case kB => exact locs rfl); (case c2 => exact rfl); (case c3 => exact rfl); (case c4 => exact rfl); k_whole))

local macro_rules | `(tactic| walk_at "call builtin:list.pop") => `(tactic| (k_here; (with_reducible show wpAny _ _ (call (Value.builtin "list.pop") [Value.ref _]) _ _ _); k_dflt (refine' pop_last ?F ?N ?U ?z ?_; (case F => k_asm); (case N => k_asm); (case U => k_upd); (case z => walk_at "Z"); k_whole); intro h' F' N'))

local macro_rules | `(tactic| walk_at "call builtin:list.append") => `(tactic| (k_here; (with_reducible show wpAny _ _ (call (Value.builtin "list.append") [Value.ref _, _]) _ _ _); k_dflt (refine' append_any ?F ?N ?U ?z ?_; (case F => k_asm); (case N => k_asm); (case U => k_upd); (case z => walk_at "Z"); k_whole); intro h' F' N'))

section
/-- the walk begins anew -/
theorem anewC1 {M : Model} {A : Around} {E : Value → Shared → Prop} {Q : Value → Shared → Prop} {s : Shared} {env : Env} (h : ∀ v s', Q v s') : wpAny M A (eval (.Constant (.int 0) 0 ⟨0, 0, 0, 0⟩) env) Q E s := by
  w_top off
  first
    | (walk1; exact h _ _)
    | exact wpAny_Constant_int (h _ _)
set_option maxHeartbeats 4000000 in
theorem fillK (w : World) : hd.heap_1 w.params = hd.heap_1 w.params ∧ PySem.Challenge.rw_ik0054_01 = PySem.Challenge.rw_ik0054_01 := by
  k_fill
  exact ⟨rfl, rfl⟩
def Stop (P : Prop) : Prop := P
theorem Stop.out {P : Prop} (h : Stop P) : P := h
abbrev Ext (h h' : Heap) : Prop := ∀ b o, h.get? b = some o → h'.get? b = some o
theorem wf_of {w : World} {mean : ExcName → Option Value} {mg mb : Str → Option Value} {g h : Heap} {L : Addr} {m : Str → Option Value} (X : (hd.heap_1 w.params).In g) (T : Top vw (looseW vw []) mean mg mb g) (F : Fr g L h m) : WF w mean mg mb h :=
  WF.keeps ⟨X, T⟩ F.keep
theorem frExt {g h h' : Heap} {L : Addr} {m : Str → Option Value} (F : Fr g L h m) (k : Ext h h') : Fr g L h' m := ⟨F.ns.keeps k, fun b o e => k b o (F.keep b o e), F.above⟩
theorem newsExt {g h h' : Heap} {L : Addr} {news : List (Addr × Obj)} (N : News g L h news) (k : Ext h h') : News g L h' news := fun p hp => ⟨k _ _ (N p hp).1, (N p hp).2⟩
local macro_rules | `(tactic| walk_at "call builtin:issubclass") => `(tactic| (k_here; (with_reducible show wpAny _ _ (call (Value.builtin "issubclass") [Value.type "str", Value.ref _]) _ _ _); (refine' call_issub_str ?k1 ?_; (case k1 => exact (News.get (by assumption) (by k_mem))); k_whole); intro tk'))
section
variable {w : World} {mean : ExcName → Option Value} {mg mb : Str → Option Value} {A : Around} {s : Shared} {E : Value → Shared → Prop} {Q : Value → Shared → Prop}
set_option maxHeartbeats 4000000 in
theorem fspath (W : WF w mean mg mb s.heap) {x : Str} {t : Tok} (hd : A.depth + 8 < recursionLimit) (hu : A.units + 60 < cLine) (hh : A.handled = none)
   (ret : ∀ h' tk', Ext s.heap h' → Q (.str x t) { s with heap := h', toks := tk' }) :
   wpAny (MD w) A (call (.ref 122) [.str x t]) Q E s := by
  obtain ⟨hd0, dp, fr, gd, un⟩ := A
  cases hh
  dsimp only at hd hu
  refine wpAny_call ?_
  k_dflt (refine' enter (as := []) (news := []) (binds := [(Str.ofString "path", .str x t)]) W ?kn ?k6 ?k7 ?k8 ?k9 ?kB ?_ ?c2 ?c3 ?c4 ?c5)
  walk_at "Enter"
  intro g' L' h' F' N' X' T' hg'
  subst hg'
  try k_fold
  k_steps
  walk_at "Ends"
  all_goals exact ret _ _ (Fr.keep (by assumption))

set_option maxHeartbeats 4000000 in
theorem get_sep (W : WF w mean mg mb s.heap) {x : Str} {t : Tok} (hd : A.depth + 8 < recursionLimit) (hu : A.units + 60 < cLine) (hh : A.handled = none)
   (ret : ∀ t' h' tk', Ext s.heap h' → Q (.str (Str.ofString "/") t') { s with heap := h', toks := tk' }) :
   wpAny (MD w) A (call (.ref 136) [.str x t]) Q E s := by
  obtain ⟨hd0, dp, fr, gd, un⟩ := A
  cases hh
  dsimp only at hd hu
  refine wpAny_call ?_
  k_dflt (refine' enter (as := []) (news := []) (binds := [(Str.ofString "path", .str x t)]) W ?kn ?k6 ?k7 ?k8 ?k9 ?kB ?_ ?c2 ?c3 ?c4 ?c5)
  walk_at "Enter"
  intro g' L' h' F' N' X' T' hg'
  subst hg'
  try k_fold
  k_steps
  walk_at "Ends"
  all_goals exact ret _ _ _ (Fr.keep (by assumption))
end
local macro_rules | `(tactic| walk_at "call ref") => `(tactic| (k_here; (with_reducible show wpAny _ _ (call (Value.ref 122) [Value.str _ _] _) _ _ _); (rename Fr _ _ _ _ => kF); (rename News _ _ _ _ => kN); (refine' fspath (wf_of (by assumption) (by assumption) kF) ?kd ?ku ?kh ?_; walk_at "T"); intro h' tk' e'; have kF' := frExt kF e'; have kN' := newsExt kN e'; clear kF kN))
section
variable {w : World} {mean : ExcName → Option Value} {mg mb : Str → Option Value} {A : Around} {s : Shared} {E : Value → Shared → Prop} {Q : Value → Shared → Prop}
end
local macro_rules | `(tactic| walk_at "call ref") => `(tactic| (k_here; (with_reducible show wpAny _ _ (call (Value.ref 136) [Value.str _ _] _) _ _ _); (rename Fr _ _ _ _ => kF); (rename News _ _ _ _ => kN); (refine' get_sep (wf_of (by assumption) (by assumption) kF) ?kd ?ku ?kh ?_; walk_at "T"); intro t' h' tk' e'; have kF' := frExt kF e'; have kN' := newsExt kN e'; clear kF kN))
section
variable {w : World} {mean : ExcName → Option Value} {mg mb : Str → Option Value} {A : Around} {s : Shared} {E : Value → Shared → Prop} {Q : Value → Shared → Prop}
def headF (x : Str) : Str := Txt.slice x none (some (Txt.rfind x (Str.ofString "/") + 1))
def dirF (x : Str) : Str := if ((headF x).length : Int) = 0 then headF x else if (headF x != Txt.mul (Str.ofString "/") ((headF x).length : Int)) = true then Txt.rstripChars (headF x) (Str.ofString "/") else headF x
def tailF (x : Str) : Str := Txt.slice x (some (Txt.rfind x (Str.ofString "/") + 1)) none
set_option maxHeartbeats 4000000 in
theorem dirname (W : WF w mean mg mb s.heap) {x : Str} {t : Tok} (hl : x.length ≤ 100) (hd : A.depth + 16 < recursionLimit) (hu : A.units + 120 < cLine) (hh : A.handled = none)
   (ret : ∀ v t' h' tk', v = dirF x → Ext s.heap h' → Q (.str v t') { s with heap := h', toks := tk' }) :
   wpAny (MD w) A (call (.ref 164) [.str x t]) Q E s := by
  obtain ⟨hd0, dp, fr, gd, un⟩ := A
  cases hh
  dsimp only at hd hu
  refine wpAny_call ?_
  k_dflt (refine' enter (as := []) (news := []) (binds := [(Str.ofString "p", .str x t)]) W ?kn ?k6 ?k7 ?k8 ?k9 ?kB ?_ ?c2 ?c3 ?c4 ?c5)
  walk_at "Enter"
  intro g' L' h' F' N' X' T' hg'
  subst hg'
  try k_fold
  k_steps
  walk_at "Ends"
  all_goals refine ret _ _ _ _ ?_ (Fr.keep (by assumption))
  all_goals (show _ = dirF x; simp only [dirF, headF]; simp only [*]; first | rfl | (simp [*]; done) | fail "a goal is left")
set_option maxHeartbeats 4000000 in
theorem split (W : WF w mean mg mb s.heap) {x : Str} {t : Tok} (hl : x.length ≤ 100) (hd : A.depth + 16 < recursionLimit) (hu : A.units + 120 < cLine) (hh : A.handled = none)
   (ret : ∀ a v₁ t₁ v₂ t₂ h' tk', v₁ = dirF x → v₂ = tailF x → Ext s.heap h' → s.heap.get? a = none → h'.get? a = some { cls := .type "tuple", data := .seq #[.str v₁ t₁, .str v₂ t₂] } → Q (.ref a) { s with heap := h', toks := tk' }) :
   wpAny (MD w) A (call (.ref 150) [.str x t]) Q E s := by
  obtain ⟨hd0, dp, fr, gd, un⟩ := A
  cases hh
  dsimp only at hd hu
  refine wpAny_call ?_
  k_dflt (refine' enter (as := []) (news := []) (binds := [(Str.ofString "p", .str x t)]) W ?kn ?k6 ?k7 ?k8 ?k9 ?kB ?_ ?c2 ?c3 ?c4 ?c5)
  walk_at "Enter"
  intro g' L' h' F' N' X' T' hg'
  subst hg'
  try k_fold
  k_steps
  walk_at "Ends"
  all_goals refine ret _ _ _ _ _ _ _ ?_ rfl (Fr.keep (by assumption)) (News.fresh (by assumption) (by k_mem)) (News.get (by assumption) (by k_mem))
  all_goals (show _ = dirF x; simp only [dirF, headF]; simp only [*]; first | rfl | (simp [*]; done) | fail "a goal is left")
def rootF (x : Str) : Str × Str :=
  if (Txt.slice x none (some 1) != Str.ofString "/") = true then (Str.ofString "", x)
  else if (Txt.slice x (some 1) (some 2) != Str.ofString "/") = true then (Str.ofString "/", Txt.slice x (some 1) none)
  else if (Txt.slice x (some 2) (some 3) == Str.ofString "/") = true then (Str.ofString "/", Txt.slice x (some 1) none)
  else (Txt.slice x none (some 2), Txt.slice x (some 2) none)
set_option maxHeartbeats 4000000 in
theorem splitroot (W : WF w mean mg mb s.heap) {x : Str} {t : Tok} (hl : x.length ≤ 100) (hd : A.depth + 16 < recursionLimit) (hu : A.units + 120 < cLine) (hh : A.handled = none)
   (ret : ∀ a v₀ t₀ v₁ t₁ v₂ t₂ h' tk', (v₁, v₂) = rootF x → Ext s.heap h' → s.heap.get? a = none → h'.get? a = some { cls := .type "tuple", data := .seq #[.str v₀ t₀, .str v₁ t₁, .str v₂ t₂] } → Q (.ref a) { s with heap := h', toks := tk' }) :
   wpAny (MD w) A (call (.ref 157) [.str x t]) Q E s := by
  obtain ⟨hd0, dp, fr, gd, un⟩ := A
  cases hh
  dsimp only at hd hu
  refine wpAny_call ?_
  k_dflt (refine' enter (as := []) (news := []) (binds := [(Str.ofString "p", .str x t)]) W ?kn ?k6 ?k7 ?k8 ?k9 ?kB ?_ ?c2 ?c3 ?c4 ?c5)
  walk_at "Enter"
  intro g' L' h' F' N' X' T' hg'
  subst hg'
  try k_fold
  k_steps
  walk_at "Ends"
  all_goals refine ret _ _ _ _ _ _ _ _ _ ?_ (Fr.keep (by assumption)) (News.fresh (by assumption) (by k_mem)) (News.get (by assumption) (by k_mem))
  all_goals (show _ = rootF x; simp only [rootF]; simp only [*]; first | rfl | (simp [*]; done) | fail "a goal is left")
end

/-- the walk begins anew -/
theorem anewC2 {M : Model} {A : Around} {E : Value → Shared → Prop} {Q : Value → Shared → Prop} {s : Shared} {env : Env} (h : ∀ v s', Q v s') : wpAny M A (eval (.Constant (.int 0) 0 ⟨0, 0, 0, 0⟩) env) Q E s := by
  w_top off
  first
    | (walk1; exact h _ _)
    | exact wpAny_Constant_int (h _ _)
theorem newsCons {g h h' : Heap} {L : Addr} {m : Str → Option Value} {news : List (Addr × Obj)} {a : Addr} {o : Obj} (F : Fr g L h m) (N : News g L h' news) (k : Ext h h') (hf : h.get? a = none) (ha : h'.get? a = some o) : News g L h' ((a, o) :: news) := by
  intro p hp
  rcases List.mem_cons.mp hp with rfl | hp
  · refine ⟨ha, fun e => ?_, ?_⟩
    · obtain ⟨oL, _, _, hL, _⟩ := F.ns
      have e : a = L := e
      rw [← e, hf] at hL; cases hL
    · cases q : g.get? a with
      | none => rfl
      | some o' => rw [F.keep _ _ q] at hf; cases hf
  · exact N p hp
section
variable {w : World} {mean : ExcName → Option Value} {mg mb : Str → Option Value} {A : Around} {s : Shared} {E : Value → Shared → Prop} {Q : Value → Shared → Prop}
def joinF (x y : Str) : Str := if Txt.startswith y (Str.ofString "/") = true then y else if (x.length : Int) = 0 then y else if Txt.endswith x (Str.ofString "/") = true then x ++ y else x ++ (Str.ofString "/" ++ y)
set_option maxHeartbeats 4000000 in
theorem join (W : WF w mean mg mb s.heap) {x y : Str} {t u : Tok} (hx : x.length ≤ 100) (hy : y.length ≤ 100) (hd : A.depth + 16 < recursionLimit) (hu : A.units + 120 < cLine) (hh : A.handled = none)
   (ret : ∀ v t' h' tk', v = joinF x y → Ext s.heap h' → Q (.str v t') { s with heap := h', toks := tk' }) :
   wpAny (MD w) A (call (.ref 143) [.str x t, .str y u]) Q E s := by
  obtain ⟨hd0, dp, fr, gd, un⟩ := A
  cases hh
  dsimp only at hd hu
  refine wpAny_call ?_
  k_dflt (refine' enterStar (vs := [.str y u]) (binds := fun D => [(Str.ofString "a", .str x t), (Str.ofString "p", .ref D)]) W ?k6 ?k7 ?k8 ?kP ?kG ?kB ?_ ?c2 ?c3 ?c4 ?c5)
  (case k6 => k_is); (case k7 => k_is); (case k8 => ((try dsimp only); omega)); 
  (case kP => exact rfl)
  (case kG => exact fun _ => rfl); (case kB => exact fun _ => locs rfl);
  (case c5 => decide); (case c2 => exact rfl); (case c3 => exact rfl); (case c4 => exact rfl); k_whole
  intro D' g' L' h' F' N' X' T' hg'
  subst hg'
  try k_fold
  k_steps
  walk_at "Ends"
  all_goals refine ret _ _ _ _ ?_ (Fr.keep (by assumption))
  all_goals (show _ = joinF x y; unfold joinF; simp only [*, if_true, if_false, Bool.false_eq_true])
end

/-- the walk begins anew -/
theorem anewC3 {M : Model} {A : Around} {E : Value → Shared → Prop} {Q : Value → Shared → Prop} {s : Shared} {env : Env} (h : ∀ v s', Q v s') : wpAny M A (eval (.Constant (.int 0) 0 ⟨0, 0, 0, 0⟩) env) Q E s := by
  w_top off
  first
    | (walk1; exact h _ _)
    | exact wpAny_Constant_int (h _ _)
local macro_rules | `(tactic| walk_at "call ref") => `(tactic| ((with_reducible show wpAny _ _ (call (Value.ref 157) _ _) _ _ _); refine Stop.out ?_))
local macro_rules | `(tactic| walk_at "call builtin:str.split") => `(tactic| (k_here; (with_reducible show wpAny _ _ (call (Value.builtin "str.split") [Value.str _ _, Value.str _ _]) _ _ _); (refine KSpl.split1 (by k_asm) (by k_asm) (by decide) ?_ (by rw [sizeLine_eq]; omega)); (intro D' l' h' k' e' a' F' N' l1); (try k_lt l1)))
local macro_rules | `(tactic| walk_at "exec For Name Name cons nil") => `(tactic| refine Stop.out ?_)

local macro_rules | `(tactic| walk_at "truthy ref") => `(tactic| (k_here; (with_reducible show wpAny _ _ (truthy (Value.ref _)) _ _ _); k_dflt (refine' truthy_nil ?N ?m ?_; (case N => k_asm); (case m => k_mem); k_whole)))
local macro_rules | `(tactic| walk_at "truthy ref") => `(tactic| (k_here; (with_reducible show wpAny _ _ (truthy (Value.ref _)) _ _ _); k_dflt (refine' truthy_snoc ?N ?m ?z ?_; (case N => k_asm); (case m => k_mem); (case z => walk_at "Z"); k_whole)))
local macro_rules | `(tactic| walk_at "subscriptTail") => `(tactic| (k_here; (with_reducible show wpAny _ _ (subscriptTail _ _ (Value.ref _) (Value.int _ _)) _ _ _); k_dflt (refine' item_last ?N ?m ?z ?_; (case N => k_asm); (case m => k_mem); (case z => walk_at "Z"); k_whole)))
local macro_rules | `(tactic| walk_at "TurnSub") => `(tactic| (simp only [strValues, List.map_append, List.map_cons, List.map_nil, List.cons_append, List.nil_append, List.append_assoc]; exact fun _ h => h))
local macro_rules | `(tactic| walk_at "call builtin:str.join") => `(tactic| (k_here; (with_reducible show wpAny _ _ (call (Value.builtin "str.join") [Value.str _ _, Value.ref _]) _ _ _); (refine SC.join (News.isList (by assumption) (List.Mem.head _)) (by assumption) (by assumption) ?_); intro _ _))
def npStep (acc : List Str) (c : Str) : List Str :=
  if (c.length : Int) = 0 ∨ c = Str.ofString "." then acc
  else if c ≠ Str.ofString ".." then acc ++ [c]
  else match acc.getLast? with
    | none => acc
    | some z => if z = Str.ofString ".." then acc ++ [c] else acc.dropLast
section
variable {acc ws : List Str} {c z : Str}
theorem np0 (h : (c.length : Int) = 0) : acc = npStep acc c := by simp [npStep, h]
theorem npDot (h : (c == Str.ofString ".") = true) : acc = npStep acc c := by
  have := eq_of_beq h
  simp [npStep, this]
theorem npApp (h0 : (c.length : Int) ≠ 0) (h1 : (c == Str.ofString ".") = false) (h2 : (c != Str.ofString "..") = true) : acc ++ [c] = npStep acc c := by
  have h1' : c ≠ Str.ofString "." := ne_of_beq_false h1
  have h2' : c ≠ Str.ofString ".." := by simpa using h2
  unfold npStep
  rw [if_neg (fun h => h.elim h0 h1'), if_pos h2']
theorem npNil (h0 : (c.length : Int) ≠ 0) (h1 : (c == Str.ofString ".") = false) (h2 : (c != Str.ofString "..") = false) : [] = npStep [] c := by
  have h1' : c ≠ Str.ofString "." := ne_of_beq_false h1
  have h2' : ¬ c ≠ Str.ofString ".." := by simpa using h2
  unfold npStep
  rw [if_neg (fun h => h.elim h0 h1'), if_neg h2']
  rfl
theorem npKeep (h0 : (c.length : Int) ≠ 0) (h1 : (c == Str.ofString ".") = false) (h2 : (c != Str.ofString "..") = false) (h3 : (z == Str.ofString "..") = true) : ws ++ [z] ++ [c] = npStep (ws ++ [z]) c := by
  have h1' : c ≠ Str.ofString "." := ne_of_beq_false h1
  have h2' : ¬ c ≠ Str.ofString ".." := by simpa using h2
  have h3' := eq_of_beq h3
  unfold npStep
  rw [if_neg (fun h => h.elim h0 h1'), if_neg h2', show (ws ++ [z]).getLast? = some z from by simp]
  exact (if_pos h3').symm
theorem npPop (h0 : (c.length : Int) ≠ 0) (h1 : (c == Str.ofString ".") = false) (h2 : (c != Str.ofString "..") = false) (h3 : (z == Str.ofString "..") = false) : ws = npStep (ws ++ [z]) c := by
  have h1' : c ≠ Str.ofString "." := ne_of_beq_false h1
  have h2' : ¬ c ≠ Str.ofString ".." := by simpa using h2
  have h3' := ne_of_beq_false h3
  unfold npStep
  rw [if_neg (fun h => h.elim h0 h1'), if_neg h2', show (ws ++ [z]).getLast? = some z from by simp]
  show _ = (if z = Str.ofString ".." then _ else _)
  rw [if_neg h3', List.dropLast_concat]
end
def normF (x : Str) : Str := Str.ofString "/" ++ Txt.join (Str.ofString "/") ((Txt.split (rootF x).2 (Str.ofString "/")).foldl npStep [])
section
variable {w : World} {mean : ExcName → Option Value} {mg mb : Str → Option Value} {A : Around} {s : Shared} {E : Value → Shared → Prop} {Q : Value → Shared → Prop}
set_option maxHeartbeats 4000000 in
theorem normpath (W : WF w mean mg mb s.heap) {x : Str} {t : Tok} (hl : x.length ≤ 100) {r : Str} (hR : rootF x = (Str.ofString "/", r)) (hl2 : r.length ≤ 100) (hc : (Txt.split r (Str.ofString "/")).length ≤ 100) (hcl : ∀ c ∈ Txt.split r (Str.ofString "/"), c.length ≤ 100)
   (hx0 : (x.length : Int) ≠ 0) (hjl : (Txt.join (Str.ofString "/") ((Txt.split r (Str.ofString "/")).foldl npStep [])).length ≤ 100) (hj : JoinOk (Str.ofString "/") ((Txt.split r (Str.ofString "/")).foldl npStep []) = true) (hd : A.depth + 24 < recursionLimit) (hu : A.units + 200 < cLine) (hh : A.handled = none)
   (ret : ∀ v t' h' tk', v = normF x → Ext s.heap h' → Q (.str v t') { s with heap := h', toks := tk' }) :
   wpAny (MD w) A (call (.ref 171) [.str x t]) Q E s := by
  obtain ⟨hd0, dp, fr, gd, un⟩ := A
  cases hh
  dsimp only at hd hu
  refine wpAny_call ?_
  k_dflt (refine' enter (as := []) (news := []) (binds := [(Str.ofString "path", .str x t)]) W ?kn ?k6 ?k7 ?k8 ?k9 ?kB ?_ ?c2 ?c3 ?c4 ?c5)
  walk_at "Enter"
  intro g' L' h' F' N' X' T' hg'
  subst hg'
  try k_fold
  k_steps
  · unfold Stop
    rename Fr _ _ _ _ => kF
    rename News _ _ _ _ => kN
    refine' splitroot (wf_of (by assumption) (by assumption) kF) ?kl ?kd ?ku ?kh ?_
    case kl => assumption
    case kd => walk_at "D"
    case ku => walk_at "U"
    case kh => exact rfl
    intro a' v₀' t₀' v₁' t₁' v₂' t₂' h' tk' hv' e' f' g'
    have hv1 := hv'.trans (by assumption)
    cases hv1
    have kF' := frExt kF e'
    have kN' := newsExt kN e'
    have kN' := newsCons kF kN' e' f' g'
    clear kF kN
    k_steps
    rename List (Str × Tok) => l
    rename Fr _ _ _ _ => F1
    rename News _ _ _ _ => N1
    rename List.map _ l = Txt.split _ _ => hs
    rename_i D _ _ _ _ _ nc _ hlt _
    unfold Stop
    with_unfolding_all refine For_invVF F1 (by rfl) (by rfl) ?_
    walk1
    have hlen : l.length = (Txt.split r (Str.ofString "/")).length := by rw [← hs, List.length_map]
    refine for_k (σ := List (Str × Tok) × Nat) (vs := strValues l) (nn := 0) (fun c => [(nc, listOf (strValues c.1).toArray c.2), (D, listOf (strValues l).toArray 0)]) (fun c => [(Str.ofString "new_comps", .ref nc)])
      [Str.ofString "sep", Str.ofString "dot", Str.ofString "dotdot", Str.ofString "initial_slashes"] (fun i c => c.1.map (·.1) = ((Txt.split r (Str.ofString "/")).take i).foldl npStep [] ∧ c.1.length ≤ i) ([], 0) rfl ?hl F1 N1 ?hN ?hk ⟨rfl, Nat.le_refl _⟩ ?stay ?turn ?done
    case hl => exact (N1 _ (.tail _ (.head _))).1
    case hN => intro p hp; rcases List.mem_cons.mp hp with rfl | hp; exact .head _; obtain rfl := List.mem_singleton.mp hp; exact .tail _ (.head _)
    case hk => exact And.intro rfl trivial
    case stay => exact fun c h m F N => (N _ (.tail _ (.head _))).1
    case turn =>
      rintro i v ⟨acc, n⟩ u I oI h tk hv ⟨hP, hlen2⟩ hI F2 N2
      clear F1 N1
      have hi : i < l.length := by
        have := (List.getElem?_eq_some_iff.mp hv).1
        simpa [strValues] using this
      obtain ⟨⟨c, tc⟩, hc2⟩ : ∃ p, l[i]? = some p := ⟨_, List.getElem?_eq_getElem hi⟩
      have hv2 : v = .str c tc := by
        have : (strValues l)[i]? = some (Value.str c tc) := by simp [strValues, hc2]
        exact Option.some.inj (hv.symm.trans this)
      subst hv2
      have hct : (Txt.split r (Str.ofString "/"))[i]? = some c := by rw [← hs]; simp [hc2]
      have hcc : c.length ≤ 100 := hcl c (List.mem_of_getElem? hct)
      have htake : (Txt.split r (Str.ofString "/")).take (i + 1) = (Txt.split r (Str.ofString "/")).take i ++ [c] := by rw [List.take_add_one, hct]; rfl
      have hI1 := neN (a := nc) (b := I) (hI _ (.head _))
      have hI2 := neN (a := D) (b := I) (hI _ (.tail _ (.head _)))
      have hoff : ∀ (o : Obj), ∀ p ∈ [(nc, o), (D, listOf (strValues l).toArray 0)], p.1 ≠ I := by
        intro o p hp; rcases List.mem_cons.mp hp with rfl | hp; exact hI1; obtain rfl := List.mem_singleton.mp hp; exact hI2
      dsimp only at hP hlen2
      have F3 : Fr (hideAll s.heap []) L' h (fun y => if y = Str.ofString "comp" then some (.str c tc) else if y = Str.ofString "new_comps" then some (.ref nc) else if y = Str.ofString "sep" then some (.str (Str.ofString "/") _) else
        if y = Str.ofString "dot" then some (.str (Str.ofString ".") _) else if y = Str.ofString "dotdot" then some (.str (Str.ofString "..") _) else if y = Str.ofString "initial_slashes" then some (.str (Str.ofString "/") _) else u y) := F2
      clear F2
      have N3 : News (hideAll s.heap []) L' h [(nc, listOf (strValues acc).toArray n), (D, listOf (strValues l).toArray 0), (I, oI)] := N2
      clear N2
      have hacc : acc.length ≤ 100 := by omega
      rcases List.eq_nil_or_concat acc with rfl | ⟨ws, ⟨z, tz⟩, rfl⟩
      · simp only [strValues, List.map_nil] at N3
        k_steps
        all_goals (show TurnEnd _ _ _ _ _ _ _ _)
        · refine TurnEnd.mk ([], n) (by assumption) (by assumption) ?sub ?has ⟨⟨?P, Nat.zero_le _⟩, hoff _⟩
          case sub => walk_at "TurnSub"
          case has => exact ⟨rfl, rfl, rfl, rfl, rfl, trivial⟩
          case P => rw [htake, List.foldl_append, ← hP]; exact npDot (by assumption)
        · refine TurnEnd.mk ([(c, tc)], n + 1) (by assumption) (by assumption) ?sub ?has ⟨⟨?P, by simp⟩, hoff _⟩
          case sub => walk_at "TurnSub"
          case has => exact ⟨rfl, rfl, rfl, rfl, rfl, trivial⟩
          case P => rw [htake, List.foldl_append, ← hP]; exact npApp (acc := []) (by assumption) (by assumption) (by assumption)
        · refine TurnEnd.mk ([], n) (by assumption) (by assumption) ?sub ?has ⟨⟨?P, Nat.zero_le _⟩, hoff _⟩
          case sub => walk_at "TurnSub"
          case has => exact ⟨rfl, rfl, rfl, rfl, rfl, trivial⟩
          case P => rw [htake, List.foldl_append, ← hP]; exact npNil (by assumption) (by assumption) (by assumption)
        · refine TurnEnd.mk ([], n) (by assumption) (by assumption) ?sub ?has ⟨⟨?P, Nat.zero_le _⟩, hoff _⟩
          case sub => walk_at "TurnSub"
          case has => exact ⟨rfl, rfl, rfl, rfl, rfl, trivial⟩
          case P => rw [htake, List.foldl_append, ← hP]; exact np0 (by assumption)
      · simp only [strValues, List.concat_eq_append, List.map_append, List.map_cons, List.map_nil] at N3
        simp only [List.concat_eq_append, List.length_append, List.length_cons, List.length_nil] at hlen2 hacc
        k_steps
        all_goals (show TurnEnd _ _ _ _ _ _ _ _)
        · refine TurnEnd.mk (ws ++ [(z, tz)], n) (by assumption) (by assumption) ?sub ?has ⟨⟨?P, by simp; omega⟩, hoff _⟩
          case sub => walk_at "TurnSub"
          case has => exact ⟨rfl, rfl, rfl, rfl, rfl, trivial⟩
          case P => rw [htake, List.foldl_append, ← hP, List.concat_eq_append]; simp only [List.map_append, List.map_cons, List.map_nil]; exact (npDot (by assumption))
        · refine TurnEnd.mk (ws ++ [(z, tz)] ++ [(c, tc)], n + 1) (by assumption) (by assumption) ?sub ?has ⟨⟨?P, by simp; omega⟩, hoff _⟩
          case sub => walk_at "TurnSub"
          case has => exact ⟨rfl, rfl, rfl, rfl, rfl, trivial⟩
          case P => rw [htake, List.foldl_append, ← hP, List.concat_eq_append]; simp only [List.map_append, List.map_cons, List.map_nil]; exact (npApp (by assumption) (by assumption) (by assumption))
        · refine TurnEnd.mk (ws ++ [(z, tz)] ++ [(c, tc)], n + 1) (by assumption) (by assumption) ?sub ?has ⟨⟨?P, by simp; omega⟩, hoff _⟩
          case sub => walk_at "TurnSub"
          case has => exact ⟨rfl, rfl, rfl, rfl, rfl, trivial⟩
          case P => rw [htake, List.foldl_append, ← hP, List.concat_eq_append]; simp only [List.map_append, List.map_cons, List.map_nil]; exact (npKeep (by assumption) (by assumption) (by assumption) (by assumption))
        · refine TurnEnd.mk (ws, n + 1) (by assumption) (by assumption) ?sub ?has ⟨⟨?P, by simp; omega⟩, hoff _⟩
          case sub => walk_at "TurnSub"
          case has => exact ⟨rfl, rfl, rfl, rfl, rfl, trivial⟩
          case P => rw [htake, List.foldl_append, ← hP, List.concat_eq_append]; simp only [List.map_append, List.map_cons, List.map_nil]; exact npPop (by assumption) (by assumption) (by assumption) (by assumption)
        · refine TurnEnd.mk (ws ++ [(z, tz)], n) (by assumption) (by assumption) ?sub ?has ⟨⟨?P, by simp; omega⟩, hoff _⟩
          case sub => walk_at "TurnSub"
          case has => exact ⟨rfl, rfl, rfl, rfl, rfl, trivial⟩
          case P => rw [htake, List.foldl_append, ← hP, List.concat_eq_append]; simp only [List.map_append, List.map_cons, List.map_nil]; exact (np0 (by assumption))
    case done =>
      rintro ⟨acc, n⟩ u h tk ⟨hP, hlen2⟩ F2 N2
      clear F1 N1
      have F3 : Fr (hideAll s.heap []) L' h (fun y => if y = Str.ofString "new_comps" then some (.ref nc) else if y = Str.ofString "sep" then some (.str (Str.ofString "/") _) else
        if y = Str.ofString "dot" then some (.str (Str.ofString ".") _) else if y = Str.ofString "dotdot" then some (.str (Str.ofString "..") _) else if y = Str.ofString "initial_slashes" then some (.str (Str.ofString "/") _) else u y) := F2
      clear F2
      have N3 : News (hideAll s.heap []) L' h [(nc, listOf (strValues acc).toArray n), (D, listOf (strValues l).toArray 0)] := N2
      clear N2
      have hT : acc.map (·.1) = (Txt.split r (Str.ofString "/")).foldl npStep [] := by
        have e : (strValues l).length = (Txt.split r (Str.ofString "/")).length := by rw [← hlen]; simp [strValues]
        rw [hP, e, List.take_length]
      clear hP
      dsimp only
      k_steps
      walk_at "Ends"
      all_goals refine ret _ _ _ _ ?_ (Fr.keep (by assumption))
      all_goals (show _ = normF x; unfold normF; rw [hR])
  exact absurd (by assumption) hx0
end

end
local macro_rules | `(tactic| walk_at "exec While Compare cons nil") => `(tactic| refine Stop.out ?_)

section
/-- the walk begins anew -/
theorem anewH0 {M : Model} {A : Around} {E : Value → Shared → Prop} {Q : Value → Shared → Prop} {s : Shared} {env : Env} (h : ∀ v s', Q v s') : wpAny M A (eval (.Constant (.int 0) 0 ⟨0, 0, 0, 0⟩) env) Q E s := by
  w_top off
  first
    | (walk1; exact h _ _)
    | exact wpAny_Constant_int (h _ _)
abbrev Ent := Int × Str
abbrev VE := Value × Ent
def EntAt (g : Heap) (p : VE) : Prop := ∃ a t u n, p.1 = .ref a ∧ g.get? a = some (listOf #[.int p.2.1 t, .str p.2.2 u] n)
def sdLoop (x : VE) (ys : List VE) (pos : Nat) : List VE :=
  if h : pos = 0 then ys.set 0 x else
    match ys[(pos - 1) / 2]? with
    | none => ys.set pos x
    | some p => if entLt x.2 p.2 = true then sdLoop x (ys.set pos p) ((pos - 1) / 2) else ys.set pos x
termination_by pos
decreasing_by omega
theorem item_any {prog : Program} {w : World} {A : Around} {E : Value → Shared → Prop} {s : Shared} {h₀ : Heap} {L : Addr} {news : List (Addr × Obj)} {D : Addr} {vs : List Value} {n : Nat} {x : Value} {value slice : Expr} {k : Int} {u : Tok} {Q : Value → Shared → Prop}
    (N : News h₀ L s.heap news) (hm : (D, listOf vs.toArray n) ∈ news) (j : Nat) (hx : vs[j]? = some x) (hk : k = (j : Int)) (hfit : j < 100000) (h : Q x s)
    (hs' : subscripted slice false (.ref D) (.int k u) = operate [.ref D, .int k u] (getItem (.ref D) (.int k u)) := by with_unfolding_all rfl) (hg : ∀ r, letTemporaryGo value (.ref D) r = pure () := by intro _; with_unfolding_all rfl) :
    wpAny (model prog w) A (subscriptTail value slice (.ref D) (.int k u)) Q E s :=
  kim_list N hm rfl rfl (by omega) (by omega) (by rw [hk]; exact hx) h hs' hg
theorem ki_setL_set : ∀ {l : List Value} {k : Nat} {v : Value}, k < l.length → ki_setL l k v = some (l.set k v)
  | _ :: _, 0, _, _ => rfl
  | y :: l, k + 1, v, h => by
    simp [ki_setL, ki_setL_set (Nat.lt_of_succ_lt_succ h)]
theorem store_any {prog : Program} {w : World} {A : Around} {E : Value → Shared → Prop} {s : Shared} {h₀ : Heap} {L : Addr} {m : Str → Option Value} {news news' : List (Addr × Obj)} {D : Addr} {vs : List Value} {n : Nat} {v : Value} {k : Int} {u : Tok} {Q : Unit → Shared → Prop}
    (F : Fr h₀ L s.heap m) (N : News h₀ L s.heap news) (j : Nat) (hk : k = (j : Int)) (hj : j < vs.length) (hfit : j < 100000) (U : Upd D (listOf vs.toArray n) (listOf (vs.set j v).toArray n) news news')
    (h : ∀ h', Fr h₀ L h' m → News h₀ L h' news' → Q () { s with heap := h' }) : wpAny (model prog w) A (setItem (.ref D) (.int k u) v) Q E s :=
  ki_set (its := vs.toArray) (q := vs.set j v) F N (by omega) (by omega) (by subst hk; simpa using ki_setL_set hj) U h
theorem shr_one {p : Nat} (h : p ≠ 0) : ((p : Int) - 1).fdiv (2 ^ Int.toNat 1) = (((p - 1) / 2 : Nat) : Int) := by
  have e : ((p : Int) - 1) = ((p - 1 : Nat) : Int) := by omega
  rw [e, Int.fdiv_eq_ediv_of_nonneg _ (by decide)]
  rfl
local macro_rules | `(tactic| walk_at "setItem ref int") => `(tactic| (k_here; (with_reducible show wpAny _ _ (setItem (Value.ref _) (Value.int _ _) _) _ _ _); k_dflt (refine' store_any ?F ?N _ ?k ?l ?z ?U ?_; (case F => k_asm); (case N => k_asm); (case k => first | with_reducible rfl | assumption | omega); (case l => first | assumption | (simp only [List.length_map]; omega)); (case z => omega); (case U => k_upd); k_whole); intro h' F' N'))
local macro_rules | `(tactic| walk_at "compareOp Lt ref") => `(tactic| (k_here; (with_reducible show wpAny _ _ (compareOp CmpOp.Lt (Value.ref _) (Value.ref _)) _ _ _); k_dflt (refine' lt_ent ?x ?y ?u ?_; (case x => walk_at "K"); (case y => walk_at "K"); (case u => walk_at "U"); k_whole)))
theorem sd_zero {x : VE} {ys : List VE} : sdLoop x ys 0 = ys.set 0 x := by rw [sdLoop]; simp
theorem sd_lt {x p : VE} {ys : List VE} {pos : Nat} (h0 : pos ≠ 0) (hp : ys[(pos - 1) / 2]? = some p) (hl : entLt x.2 p.2 = true) : sdLoop x ys pos = sdLoop x (ys.set pos p) ((pos - 1) / 2) := by
  rw [sdLoop]; simp only [h0, dite_false, hp, hl, if_true]
theorem sd_ge {x p : VE} {ys : List VE} {pos : Nat} (h0 : pos ≠ 0) (hp : ys[(pos - 1) / 2]? = some p) (hl : entLt x.2 p.2 = false) : sdLoop x ys pos = ys.set pos x := by
  rw [sdLoop]; simp only [h0, dite_false, hp, hl, Bool.false_eq_true, if_false]
local macro_rules | `(tactic| walk_at "subscriptTail Name Name ref int") => `(tactic| (k_here; (with_reducible show wpAny _ _ (subscriptTail _ _ (Value.ref _) (Value.int _ _)) _ _ _); k_dflt (refine' item_any ?N ?m _ ?x ?k ?z ?_; (case N => k_asm); (case m => k_mem); (case k => first | with_reducible rfl | assumption | omega); (case x => assumption); (case z => omega); k_whole)))
section
variable {w : World} {mean : ExcName → Option Value} {mg mb : Str → Option Value} {A : Around} {s : Shared} {E : Value → Shared → Prop} {Q : Value → Shared → Prop}
set_option maxHeartbeats 4000000 in
theorem siftdown {a : Addr} {xs : List VE} {n pos : Nat} {t0 t : Tok} (W : WF w mean mg mb (hideAll s.heap [a])) (ha : s.heap.get? a = some (listOf (xs.map (·.1)).toArray n)) (he : ∀ p ∈ xs, EntAt (hideAll s.heap [a]) p)
   {x : VE} (hx : xs[pos]? = some x) (hl : xs.length ≤ 1000) (hd : A.depth + 8 < recursionLimit) (hu : A.units + 60 < cLine) (hh : A.handled = none)
   (ret : ∀ h' tk', Ext (hideAll s.heap [a]) h' → h'.get? a = some (listOf ((sdLoop x xs pos).map (·.1)).toArray n) → Q .none { s with heap := h', toks := tk' }) :
   wpAny (MD w) A (call (.ref 42) [.ref a, .int 0 t0, .int pos t]) Q E s := by
  obtain ⟨hd0, dp, fr, gd, un⟩ := A
  cases hh
  dsimp only at hd hu
  refine wpAny_call ?_
  k_dflt (refine' enter (as := [a]) (news := [(a, listOf (xs.map (·.1)).toArray n)]) (binds := [(Str.ofString "heap", .ref a), (Str.ofString "startpos", .int 0 t0), (Str.ofString "pos", .int pos t)]) W ?kn ?k6 ?k7 ?k8 ?k9 ?kB ?_ ?c2 ?c3 ?c4 ?c5)
  case kn => intro p hp; obtain rfl := List.mem_singleton.mp hp; exact ⟨ha, .head _⟩
  (case k6 => k_is); (case k7 => k_is); (case k8 => ((try dsimp only); omega)); (case k9 => exact BindsTo.of_eq rfl)
  (case c5 => decide); (case kB => exact locs rfl); (case c2 => exact rfl); (case c3 => exact rfl); (case c4 => exact rfl); k_whole
  intro g' L' h' F' N' X' T' hg'
  rw [← hg'] at he ret
  try k_fold
  have hpl : pos < xs.length := (List.getElem?_eq_some_iff.mp hx).1
  obtain ⟨xv, xe⟩ := x
  obtain ⟨bx, tx, ux, nx, ex, hbx⟩ := he _ (List.mem_of_getElem? hx)
  dsimp only at ex hbx
  subst ex
  have hx1 : (xs.map (·.1))[pos]? = some (Value.ref bx) := by rw [List.getElem?_map, hx]; rfl
  k_steps
  rename Fr _ _ _ _ => F1
  rename News _ _ _ _ => N1
  unfold Stop
  refine while_k (σ := List VE × Nat × Tok) (fun c => [(a, listOf (c.1.map (·.1)).toArray n)]) (fun c => [(Str.ofString "pos", .int c.2.1 c.2.2)]) [Str.ofString "heap", Str.ofString "startpos", Str.ofString "newitem"] (fun c => c.2.1)
    (fun c => c.2.1 < c.1.length ∧ c.1.length = xs.length ∧ (∀ p ∈ c.1, EntAt g' p) ∧ sdLoop (.ref bx, xe) c.1 c.2.1 = sdLoop (.ref bx, xe) xs pos) (xs, pos, t) F1 N1 (fun _ h => h) (And.intro rfl trivial) ⟨hpl, rfl, he, rfl⟩ ?turn
  case turn =>
    rintro ⟨ys, p, tp⟩ u h tk ⟨hp1, hp2, hp3, hp4⟩ F2 N2
    clear F1 N1
    dsimp only at hp1 hp2 hp3 hp4
    have F3 : Fr g' L' h (fun y => if y = Str.ofString "pos" then some (.int p tp) else if y = Str.ofString "heap" then some (.ref a) else if y = Str.ofString "startpos" then some (.int 0 t0) else if y = Str.ofString "newitem" then some (.ref bx) else u y) := F2
    clear F2
    have N3 : News g' L' h [(a, listOf (ys.map (·.1)).toArray n)] := N2
    clear N2
    by_cases hp0 : p = 0
    · have hjl : p < (ys.map (·.1)).length := by rw [List.length_map]; exact hp1
      k_steps
      refine ret _ _ (Fr.keep (by assumption)) ?_
      rw [← hp4, hp0, sd_zero, ← hp0, List.map_set]
      exact News.get (by assumption) (List.Mem.head _)
    · have hk := shr_one hp0
      have hpp : (p - 1) / 2 < ys.length := by omega
      obtain ⟨⟨pv, pe⟩, hpe⟩ : ∃ q, ys[(p - 1) / 2]? = some q := ⟨_, List.getElem?_eq_getElem hpp⟩
      obtain ⟨bp, tq, uq, nq, ep, hbp⟩ := hp3 _ (List.mem_of_getElem? hpe)
      dsimp only at ep hbp
      subst ep
      have hy1 : (ys.map (·.1))[(p - 1) / 2]? = some (Value.ref bp) := by rw [List.getElem?_map, hpe]; rfl
      have hjl : p < (ys.map (·.1)).length := by rw [List.length_map]; exact hp1
      k_steps
      · show TurnEnd _ _ _ _ _ _ _ _
        refine TurnEnd.mk (ys.set p (.ref bp, pe), (p - 1) / 2, _) (by assumption) (by assumption) ?_ (by refine ⟨congrArg (fun z => some (Value.int z _)) hk, rfl, rfl, rfl, trivial⟩) ⟨?_, ?_, ?_, ?_, ?_⟩
        · simp only [List.map_set, List.append_nil]; exact fun _ h => h
        · show (p - 1) / 2 < p
          omega
        · show (p - 1) / 2 < (ys.set p _).length
          rw [List.length_set]; exact hpp
        · show (ys.set p _).length = _
          rw [List.length_set]; exact hp2
        · intro q hq
          rcases List.mem_or_eq_of_mem_set hq with hq | rfl
          · exact hp3 q hq
          · exact ⟨bp, tq, uq, nq, rfl, hbp⟩
        · exact (sd_lt hp0 hpe (by assumption)).symm.trans hp4
      · dsimp only [TurnPost]
        k_steps
        walk_at "Ends"
        refine ret _ _ (Fr.keep (by assumption)) ?_
        rw [← hp4, sd_ge hp0 hpe (by assumption), List.map_set]
        exact News.get (by assumption) (List.Mem.head _)
end

/-- the walk begins anew -/
theorem anewH1 {M : Model} {A : Around} {E : Value → Shared → Prop} {Q : Value → Shared → Prop} {s : Shared} {env : Env} (h : ∀ v s', Q v s') : wpAny M A (eval (.Constant (.int 0) 0 ⟨0, 0, 0, 0⟩) env) Q E s := by
  w_top off
  first
    | (walk1; exact h _ _)
    | exact wpAny_Constant_int (h _ _)
local macro_rules | `(tactic| walk_at "call builtin:len") => `(tactic| (k_here; (with_reducible show wpAny _ _ (call (Value.builtin "len") [Value.ref _]) _ _ _); k_dflt (refine' len_any ?N ?m _ ?k ?z ?_; (case N => k_asm); (case m => k_mem); (case k => assumption); (case z => omega); k_whole)))
theorem sub_lt_of {n p : Nat} (h : p < n) (k : Nat) (hk : 1 ≤ k) : n - (2 * p + k) < n - p := by omega
def suChild (ys : List VE) (pos : Nat) : Nat :=
  match ys[2 * pos + 1]?, ys[2 * pos + 2]? with
  | some l, some r => if entLt l.2 r.2 = true then 2 * pos + 1 else 2 * pos + 2
  | _, _ => 2 * pos + 1
theorem suChild_lt {ys : List VE} {pos : Nat} (h : 2 * pos + 1 < ys.length) : pos < suChild ys pos ∧ suChild ys pos < ys.length := by
  unfold suChild
  split
  · rename_i l r hl hr
    have := (List.getElem?_eq_some_iff.mp hr).1
    split <;> omega
  · omega
def suLoop (ys : List VE) (pos : Nat) : List VE × Nat :=
  if h : 2 * pos + 1 < ys.length then
    match hc : ys[suChild ys pos]? with
    | some q => suLoop (ys.set pos q) (suChild ys pos)
    | none => (ys, pos)
  else (ys, pos)
termination_by ys.length - pos
decreasing_by
  have := suChild_lt h
  simp only [List.length_set]
  omega
theorem su_end {ys : List VE} {pos : Nat} (h : ¬ 2 * pos + 1 < ys.length) : suLoop ys pos = (ys, pos) := by rw [suLoop]; simp only [h, dite_false]
theorem su_step {ys : List VE} {pos c : Nat} {q : VE} (h : 2 * pos + 1 < ys.length) (e : suChild ys pos = c) (hq : ys[c]? = some q) : suLoop ys pos = suLoop (ys.set pos q) c := by
  subst e
  rw [suLoop]
  simp only [h, dite_true]
  split
  · rename_i q' hq'
    rw [hq] at hq'
    cases hq'
    rfl
  · rename_i hn
    rw [hq] at hn; cases hn
theorem suL {ys : List VE} {p : Nat} {l r : VE} (hl : ys[2 * p + 1]? = some l) (hr : ys[2 * p + 2]? = some r) (h : entLt l.2 r.2 = true) : suChild ys p = 2 * p + 1 := by
  unfold suChild; rw [hl, hr]; exact if_pos h
theorem suR {ys : List VE} {p : Nat} {l r : VE} (hl : ys[2 * p + 1]? = some l) (hr : ys[2 * p + 2]? = some r) (h : entLt l.2 r.2 = false) : suChild ys p = 2 * p + 2 := by
  unfold suChild; rw [hl, hr]; exact if_neg (by rw [h]; exact Bool.false_ne_true)
theorem suO {ys : List VE} {p : Nat} (hr : ¬ 2 * p + 2 < ys.length) : suChild ys p = 2 * p + 1 := by
  unfold suChild
  rw [show ys[2 * p + 2]? = none from by simp; omega]
  split <;> first | rfl | (rename_i h; cases h)
theorem hide_up {g h : Heap} {L : Addr} {m : Str → Option Value} {as : List Addr} (F : Fr g L h m) (hm : ∀ b ∈ as, g.get? b = none) : Ext g (hideAll h as) :=
  fun b o e => hideAll_get as (F.keep b o e) (fun hb => by rw [hm b hb] at e; cases e)
theorem EntAt.ext {g h : Heap} {p : VE} (x : EntAt g p) (k : Ext g h) : EntAt h p := let ⟨a, t, u, n, e, ha⟩ := x; ⟨a, t, u, n, e, k _ _ ha⟩
theorem frHide {g h h' : Heap} {L : Addr} {m : Str → Option Value} {as : List Addr} (F : Fr g L h m) (hm : ∀ b ∈ as, g.get? b = none) (hL : L ∉ as) (k : Ext (hideAll h as) h') : Fr g L h' m :=
  ⟨F.ns.at' fun o e => k _ _ (hideAll_get as e hL), fun b o e => k _ _ (hide_up F hm b o e), F.above⟩
section
variable {w : World} {mean : ExcName → Option Value} {mg mb : Str → Option Value} {A : Around} {s : Shared} {E : Value → Shared → Prop} {Q : Value → Shared → Prop}
set_option maxHeartbeats 4000000 in
theorem siftup {a : Addr} {xs : List VE} {n : Nat} {t0 : Tok} (W : WF w mean mg mb (hideAll s.heap [a])) (ha : s.heap.get? a = some (listOf (xs.map (·.1)).toArray n)) (he : ∀ p ∈ xs, EntAt (hideAll s.heap [a]) p)
   {x : VE} (hx : xs[0]? = some x) (hl : xs.length ≤ 1000) (hd : A.depth + 16 < recursionLimit) (hu : A.units + 120 < cLine) (hh : A.handled = none)
   (ret : ∀ h' tk', Ext (hideAll s.heap [a]) h' → h'.get? a = some (listOf ((sdLoop x ((suLoop xs 0).1.set (suLoop xs 0).2 x) (suLoop xs 0).2).map (·.1)).toArray n) → Q .none { s with heap := h', toks := tk' }) :
   wpAny (MD w) A (call (.ref 49) [.ref a, .int 0 t0]) Q E s := by
  obtain ⟨hd0, dp, fr, gd, un⟩ := A
  cases hh
  dsimp only at hd hu
  refine wpAny_call ?_
  k_dflt (refine' enter (as := [a]) (news := [(a, listOf (xs.map (·.1)).toArray n)]) (binds := [(Str.ofString "heap", .ref a), (Str.ofString "pos", .int 0 t0)]) W ?kn ?k6 ?k7 ?k8 ?k9 ?kB ?_ ?c2 ?c3 ?c4 ?c5)
  case kn => intro p hp; obtain rfl := List.mem_singleton.mp hp; exact ⟨ha, .head _⟩
  (case k6 => k_is); (case k7 => k_is); (case k8 => ((try dsimp only); omega)); (case k9 => exact BindsTo.of_eq rfl)
  (case c5 => decide); (case kB => exact locs rfl); (case c2 => exact rfl); (case c3 => exact rfl); (case c4 => exact rfl); k_whole
  intro g' L' h' F' N' X' T' hg'
  rw [← hg'] at he ret
  try k_fold
  have hpl : 0 < xs.length := (List.getElem?_eq_some_iff.mp hx).1
  obtain ⟨xv, xe⟩ := x
  obtain ⟨bx, tx, ux, nx, ex, hbx⟩ := he _ (List.mem_of_getElem? hx)
  dsimp only at ex hbx
  subst ex
  have hx1 : (xs.map (·.1))[0]? = some (Value.ref bx) := by rw [List.getElem?_map, hx]; rfl
  have hk0 : (0 : Int) = ((0 : Nat) : Int) := rfl
  obtain ⟨len, hlen⟩ : ∃ k, (xs.map (·.1)).length = k := ⟨_, rfl⟩
  have hlx : xs.length = len := by rw [← hlen, List.length_map]
  k_steps
  rename Fr _ _ _ _ => F1
  rename News _ _ _ _ => N1
  unfold Stop
  refine while_k (σ := List VE × Nat × Tok × Tok) (fun c => [(a, listOf (c.1.map (·.1)).toArray n)]) (fun c => [(Str.ofString "pos", .int c.2.1 c.2.2.1), (Str.ofString "childpos", .int (2 * (c.2.1 : Int) + 1) c.2.2.2)]) [Str.ofString "heap", Str.ofString "startpos", Str.ofString "newitem", Str.ofString "endpos"] (fun c => xs.length - c.2.1)
    (fun c => c.2.1 < c.1.length ∧ c.1.length = xs.length ∧ (∀ p ∈ c.1, EntAt g' p) ∧ suLoop c.1 c.2.1 = suLoop xs 0) (xs, 0, t0, _) F1 N1 (fun _ h => h) (And.intro rfl (And.intro rfl trivial)) ⟨hpl, rfl, he, rfl⟩ ?turn
  case turn =>
    rintro ⟨ys, p, tp, tc⟩ u h tk ⟨hp1, hp2, hp3, hp4⟩ F2 N2
    clear F1 N1
    dsimp only at hp1 hp2 hp3 hp4
    have F3 : Fr g' L' h (fun y => if y = Str.ofString "pos" then some (.int p tp) else if y = Str.ofString "childpos" then some (.int (2 * (p : Int) + 1) tc) else if y = Str.ofString "heap" then some (.ref a) else if y = Str.ofString "startpos" then some (.int 0 t0) else if y = Str.ofString "newitem" then some (.ref bx) else
      if y = Str.ofString "endpos" then some (.int len _) else u y) := F2
    clear F2
    have N3 : News g' L' h [(a, listOf (ys.map (·.1)).toArray n)] := N2
    clear N2
    have hjl : p < (ys.map (·.1)).length := by rw [List.length_map]; exact hp1
    by_cases hc : 2 * p + 1 < len
    · have hc1 : 2 * p + 1 < ys.length := by omega
      obtain ⟨⟨lv, le⟩, hle⟩ : ∃ q, ys[2 * p + 1]? = some q := ⟨_, List.getElem?_eq_getElem hc1⟩
      obtain ⟨bl, tl, ul, nl, el, hbl⟩ := hp3 _ (List.mem_of_getElem? hle)
      dsimp only at el hbl
      subst el
      have hy1 : (ys.map (·.1))[2 * p + 1]? = some (Value.ref bl) := by rw [List.getElem?_map, hle]; rfl
      have hk1 : (2 * (p : Int) + 1) = ((2 * p + 1 : Nat) : Int) := by omega
      by_cases hr : 2 * p + 2 < len
      · have hr1 : 2 * p + 2 < ys.length := by omega
        obtain ⟨⟨rv, re⟩, hre⟩ : ∃ q, ys[2 * p + 2]? = some q := ⟨_, List.getElem?_eq_getElem hr1⟩
        obtain ⟨br, tr, ur, nr, er, hbr⟩ := hp3 _ (List.mem_of_getElem? hre)
        dsimp only at er hbr
        subst er
        have hy2 : (ys.map (·.1))[2 * p + 2]? = some (Value.ref br) := by rw [List.getElem?_map, hre]; rfl
        have hk2 : (2 * (p : Int) + 1 + 1) = ((2 * p + 2 : Nat) : Int) := by omega
        k_steps
        · show TurnEnd _ _ _ _ _ _ _ _
          refine TurnEnd.mk (ys.set p (.ref bl, le), 2 * p + 1, _, _) (by assumption) (by assumption) ?_ (by refine ⟨congrArg (fun z => some (Value.int z _)) hk1, congrArg (fun z => some (Value.int (2 * z + 1) _)) hk1, rfl, rfl, rfl, rfl, trivial⟩) ⟨?_, ?_, ?_, ?_, ?_⟩
          · simp only [List.map_set, List.append_nil]; exact fun _ h => h
          · exact sub_lt_of (hp2 ▸ hp1) 1 (Nat.le_refl _)
          · show 2 * p + 1 < (ys.set p _).length
            rw [List.length_set]; omega
          · show (ys.set p _).length = _
            rw [List.length_set]; exact hp2
          · intro q hq
            rcases List.mem_or_eq_of_mem_set hq with hq | rfl
            · exact hp3 q hq
            · exact ⟨bl, tl, ul, nl, rfl, hbl⟩
          · exact (su_step hc1 (suL hle hre (by assumption)) hle).symm.trans hp4
        · show TurnEnd _ _ _ _ _ _ _ _
          refine TurnEnd.mk (ys.set p (.ref br, re), 2 * p + 2, _, _) (by assumption) (by assumption) ?_ (by refine ⟨congrArg (fun z => some (Value.int z _)) hk2, congrArg (fun z => some (Value.int (2 * z + 1) _)) hk2, rfl, rfl, rfl, rfl, trivial⟩) ⟨?_, ?_, ?_, ?_, ?_⟩
          · simp only [List.map_set, List.append_nil]; exact fun _ h => h
          · exact sub_lt_of (hp2 ▸ hp1) 2 (Nat.le_succ _)
          · show 2 * p + 2 < (ys.set p _).length
            rw [List.length_set]; omega
          · show (ys.set p _).length = _
            rw [List.length_set]; exact hp2
          · intro q hq
            rcases List.mem_or_eq_of_mem_set hq with hq | rfl
            · exact hp3 q hq
            · exact ⟨br, tr, ur, nr, rfl, hbr⟩
          · exact (su_step hc1 (suR hle hre (by assumption)) hre).symm.trans hp4
      · k_steps
        · show TurnEnd _ _ _ _ _ _ _ _
          refine TurnEnd.mk (ys.set p (.ref bl, le), 2 * p + 1, _, _) (by assumption) (by assumption) ?_ (by refine ⟨congrArg (fun z => some (Value.int z _)) hk1, congrArg (fun z => some (Value.int (2 * z + 1) _)) hk1, rfl, rfl, rfl, rfl, trivial⟩) ⟨?_, ?_, ?_, ?_, ?_⟩
          · simp only [List.map_set, List.append_nil]; exact fun _ h => h
          · exact sub_lt_of (hp2 ▸ hp1) 1 (Nat.le_refl _)
          · show 2 * p + 1 < (ys.set p _).length
            rw [List.length_set]; omega
          · show (ys.set p _).length = _
            rw [List.length_set]; exact hp2
          · intro q hq
            rcases List.mem_or_eq_of_mem_set hq with hq | rfl
            · exact hp3 q hq
            · exact ⟨bl, tl, ul, nl, rfl, hbl⟩
          · exact (su_step hc1 (suO (by omega)) hle).symm.trans hp4
    · k_steps
      rename Fr _ _ _ _ => F4
      rename News _ _ _ _ => N4
      have hma : ∀ b ∈ [a], g'.get? b = none := fun b hb => by obtain rfl := List.mem_singleton.mp hb; exact (N4 _ (.head _)).2.2
      have up := hide_up F4 hma
      have hpe : suLoop xs 0 = (ys, p) := by rw [← hp4, su_end (by omega)]
      rw [hpe] at ret
      refine siftdown (xs := ys.set p (.ref bx, xe)) (n := n) (pos := p) (x := (.ref bx, xe)) (WF.keeps ⟨X', T'⟩ up) ?_ ?_ ?_ ?_ ?kd ?ku rfl ?_
      · rw [List.map_set]; exact (N4 _ (.head _)).1
      · intro q hq
        rcases List.mem_or_eq_of_mem_set hq with hq | rfl
        · exact (hp3 q hq).ext up
        · exact EntAt.ext ⟨bx, tx, ux, nx, rfl, hbx⟩ up
      · exact List.getElem?_set_self hp1
      · rw [List.length_set]; omega
      case kd => walk_at "D"
      case ku => walk_at "U"
      intro h5 tk5 e5 g5
      have F5 := frHide F4 hma (fun h => (N4 _ (.head _)).2.1 (List.mem_singleton.mp h).symm) e5
      clear F4
      dsimp only
      k_steps
      walk_at "Ends"
      exact ret _ _ F5.keep g5
end

/-- the walk begins anew -/
theorem anewH2 {M : Model} {A : Around} {E : Value → Shared → Prop} {Q : Value → Shared → Prop} {s : Shared} {env : Env} (h : ∀ v s', Q v s') : wpAny M A (eval (.Constant (.int 0) 0 ⟨0, 0, 0, 0⟩) env) Q E s := by
  w_top off
  first
    | (walk1; exact h _ _)
    | exact wpAny_Constant_int (h _ _)
local macro_rules | `(tactic| walk_at "truthy ref") => `(tactic| (k_here; (with_reducible show wpAny _ _ (truthy (Value.ref _)) _ _ _); k_dflt (refine' truthy_cons ?N ?m ?z ?_; (case N => k_asm); (case m => k_mem); (case z => walk_at "Z"); k_whole)))
local macro_rules | `(tactic| walk_at "truthy ref") => `(tactic| (k_here; (with_reducible show wpAny _ _ (truthy (Value.ref _)) _ _ _); k_dflt (refine' truthy_nil ?N ?m ?_; (case N => k_asm); (case m => k_mem); k_whole)))
def pushF (xs : List VE) (p : VE) : List VE := sdLoop p (xs ++ [p]) xs.length
def popF (ys : List VE) (last : VE) : VE × List VE :=
  match ys with
  | [] => (last, [])
  | y :: r => (y, sdLoop last ((suLoop (last :: r) 0).1.set (suLoop (last :: r) 0).2 last) (suLoop (last :: r) 0).2)
section
variable {w : World} {mean : ExcName → Option Value} {mg mb : Str → Option Value} {A : Around} {s : Shared} {E : Value → Shared → Prop} {Q : Value → Shared → Prop}
set_option maxHeartbeats 4000000 in
theorem heappush {a : Addr} {xs : List VE} {n : Nat} {p : VE} (W : WF w mean mg mb (hideAll s.heap [a])) (ha : s.heap.get? a = some (listOf (xs.map (·.1)).toArray n)) (he : ∀ q ∈ xs, EntAt (hideAll s.heap [a]) q)
   (hp : EntAt (hideAll s.heap [a]) p) (hl : xs.length ≤ 900) (hd : A.depth + 16 < recursionLimit) (hu : A.units + 120 < cLine) (hh : A.handled = none)
   (ret : ∀ h' tk', Ext (hideAll s.heap [a]) h' → h'.get? a = some (listOf ((pushF xs p).map (·.1)).toArray (n + 1)) → Q .none { s with heap := h', toks := tk' }) :
   wpAny (MD w) A (call (.ref 28) [.ref a, p.1]) Q E s := by
  obtain ⟨hd0, dp, fr, gd, un⟩ := A
  cases hh
  dsimp only at hd hu
  obtain ⟨pv, pe⟩ := p
  obtain ⟨bi, ti, ui, ni, ei, hbi⟩ := id hp
  dsimp only at ei hbi
  subst ei
  refine wpAny_call ?_
  k_dflt (refine' enter (as := [a]) (news := [(a, listOf (xs.map (·.1)).toArray n)]) (binds := [(Str.ofString "heap", .ref a), (Str.ofString "item", .ref bi)]) W ?kn ?k6 ?k7 ?k8 ?k9 ?kB ?_ ?c2 ?c3 ?c4 ?c5)
  case kn => intro p hp; obtain rfl := List.mem_singleton.mp hp; exact ⟨ha, .head _⟩
  (case k6 => k_is); (case k7 => k_is); (case k8 => ((try dsimp only); omega)); (case k9 => exact BindsTo.of_eq rfl)
  (case c5 => decide); (case kB => exact locs rfl); (case c2 => exact rfl); (case c3 => exact rfl); (case c4 => exact rfl); k_whole
  intro g' L' h' F' N' X' T' hg'
  rw [← hg'] at he ret hp
  try k_fold
  have hlen : (xs.map (·.1) ++ [Value.ref bi]).length = xs.length + 1 := by simp
  k_steps
  rename Fr _ _ _ _ => F4
  rename News _ _ _ _ => N4
  have hma : ∀ b ∈ [a], g'.get? b = none := fun b hb => by obtain rfl := List.mem_singleton.mp hb; exact (N4 _ (.head _)).2.2
  have up := hide_up F4 hma
  rw [show ((xs.length + 1 : Nat) : Int) - 1 = (xs.length : Int) from by omega]
  refine siftdown (xs := xs ++ [(.ref bi, pe)]) (n := n + 1) (pos := xs.length) (x := (.ref bi, pe)) (WF.keeps ⟨X', T'⟩ up) ?_ ?_ ?_ ?_ ?kd ?ku rfl ?_
  · rw [List.map_append]; exact (N4 _ (.head _)).1
  · intro q hq
    rcases List.mem_append.mp hq with hq | hq
    · exact (he q hq).ext up
    · obtain rfl := List.mem_singleton.mp hq; exact hp.ext up
  · simp
  · rw [List.length_append, List.length_singleton]; omega
  case kd => walk_at "D"
  case ku => walk_at "U"
  intro h5 tk5 e5 g5
  have F5 := frHide F4 hma (fun h => (N4 _ (.head _)).2.1 (List.mem_singleton.mp h).symm) e5
  clear F4
  dsimp only
  k_steps
  walk_at "Ends"
  exact ret _ _ F5.keep g5
set_option maxHeartbeats 4000000 in
theorem heappop {a : Addr} {ys : List VE} {last : VE} {n : Nat} (W : WF w mean mg mb (hideAll s.heap [a])) (ha : s.heap.get? a = some (listOf (ys.map (·.1) ++ [last.1]).toArray n)) (he : ∀ q ∈ ys, EntAt (hideAll s.heap [a]) q)
   (hp : EntAt (hideAll s.heap [a]) last) (hl : ys.length ≤ 900) (hd : A.depth + 24 < recursionLimit) (hu : A.units + 180 < cLine) (hh : A.handled = none)
   (ret : ∀ h' tk' n', Ext (hideAll s.heap [a]) h' → h'.get? a = some (listOf ((popF ys last).2.map (·.1)).toArray n') → Q (popF ys last).1.1 { s with heap := h', toks := tk' }) :
   wpAny (MD w) A (call (.ref 35) [.ref a]) Q E s := by
  obtain ⟨hd0, dp, fr, gd, un⟩ := A
  cases hh
  dsimp only at hd hu
  obtain ⟨pv, pe⟩ := last
  obtain ⟨bi, ti, ui, ni, ei, hbi⟩ := id hp
  dsimp only at ei hbi
  subst ei
  refine wpAny_call ?_
  k_dflt (refine' enter (as := [a]) (news := [(a, listOf (ys.map (fun p => p.1) ++ [Value.ref bi]).toArray n)]) (binds := [(Str.ofString "heap", .ref a)]) W ?kn ?k6 ?k7 ?k8 ?k9 ?kB ?_ ?c2 ?c3 ?c4 ?c5)
  case kn => intro p hp; obtain rfl := List.mem_singleton.mp hp; exact ⟨ha, .head _⟩
  (case k6 => k_is); (case k7 => k_is); (case k8 => ((try dsimp only); omega)); (case k9 => exact BindsTo.of_eq rfl)
  (case c5 => decide); (case kB => exact locs rfl); (case c2 => exact rfl); (case c3 => exact rfl); (case c4 => exact rfl); k_whole
  intro g' L' h' F' N' X' T' hg'
  rw [← hg'] at he ret hp
  try k_fold
  rcases ys with _ | ⟨⟨yv, ye⟩, r⟩
  · k_steps
    rename Fr _ _ _ _ => F4
    rename News _ _ _ _ => N4
    walk_at "Ends"
    exact ret _ _ _ F4.keep (N4 _ (.head _)).1
  · obtain ⟨by', ty', uy', ny', ey', hby'⟩ := he _ (.head _)
    dsimp only at ey' hby'
    subst ey'
    have hk0 : (0 : Int) = ((0 : Nat) : Int) := rfl
    have hx0 : (Value.ref by' :: List.map (fun p : VE => p.1) r)[0]? = some (Value.ref by') := rfl
    simp only [List.map_cons] at N'
    rw [List.length_cons] at hl
    have hj0 : 0 < (Value.ref by' :: List.map (fun p : VE => p.1) r).length := Nat.zero_lt_succ _
    k_steps
    rename Fr _ _ _ _ => F4
    rename News _ _ _ _ => N4
    have hma : ∀ b ∈ [a], g'.get? b = none := fun b hb => by obtain rfl := List.mem_singleton.mp hb; exact (N4 _ (.head _)).2.2
    have up := hide_up F4 hma
    refine siftup (xs := (.ref bi, pe) :: r) (n := n + 1) (x := (.ref bi, pe)) (WF.keeps ⟨X', T'⟩ up) (N4 _ (.head _)).1 ?_ rfl ?_ ?kd ?ku rfl ?_
    · intro q hq
      rcases List.mem_cons.mp hq with rfl | hq
      · exact hp.ext up
      · exact (he q (.tail _ hq)).ext up
    · rw [List.length_cons]; omega
    case kd => walk_at "D"
    case ku => walk_at "U"
    intro h5 tk5 e5 g5
    have F5 := frHide F4 hma (fun h => (N4 _ (.head _)).2.1 (List.mem_singleton.mp h).symm) e5
    clear F4
    dsimp only
    k_steps
    walk_at "Ends"
    exact ret _ _ _ F5.keep g5
end

/-- the walk begins anew -/
theorem anewP2 {M : Model} {A : Around} {E : Value → Shared → Prop} {Q : Value → Shared → Prop} {s : Shared} {env : Env} (h : ∀ v s', Q v s') : wpAny M A (eval (.Constant (.int 0) 0 ⟨0, 0, 0, 0⟩) env) Q E s := by
  w_top off
  first
    | (walk1; exact h _ _)
    | exact wpAny_Constant_int (h _ _)
theorem perm_set_head {α : Type} {x p : α} : ∀ {l : List α} {j : Nat}, l[j]? = some p → (p :: l.set j x).Perm (x :: l) := by
  intro l
  induction l with
  | nil => intro j h; cases h
  | cons a l ih =>
    intro j h
    cases j with
    | zero => cases h; exact List.Perm.swap _ _ _
    | succ j =>
      have h : l[j]? = some p := h
      rw [List.set_cons_succ]
      exact (List.Perm.swap _ _ _).trans (((ih h).cons a).trans (List.Perm.swap _ _ _))
theorem perm_swap {α : Type} {x p : α} : ∀ {l : List α} {i j : Nat}, i ≠ j → i < l.length → l[j]? = some p → ((l.set i p).set j x).Perm (l.set i x) := by
  intro l
  induction l with
  | nil => intro i j _ h; exact absurd h (Nat.not_lt_zero _)
  | cons a l ih =>
    intro i j hij hi h
    cases i with
    | zero =>
      cases j with
      | zero => exact absurd rfl hij
      | succ j => exact perm_set_head h
    | succ i =>
      cases j with
      | zero =>
        cases h
        have hi : i < l.length := Nat.lt_of_succ_lt_succ hi
        show (x :: l.set i p).Perm (p :: l.set i x)
        have e : (l.set i x)[i]? = some x := by simp [hi]
        have := perm_set_head (x := p) e
        rwa [List.set_set] at this
      | succ j => exact (ih (fun e => hij (by rw [e])) (Nat.lt_of_succ_lt_succ hi) h).cons a
theorem sd_perm {x : VE} : ∀ {n : Nat} {ys : List VE} {pos : Nat}, pos ≤ n → pos < ys.length → (sdLoop x ys pos).Perm (ys.set pos x) := by
  intro n
  induction n with
  | zero =>
    intro ys pos hn hp
    obtain rfl : pos = 0 := by omega
    rw [sdLoop, dif_pos rfl]
  | succ n ih =>
    intro ys pos hn hp
    rw [sdLoop]
    split
    · rename_i h0
      subst h0
      exact .refl _
    · rename_i h0
      split
      · exact .refl _
      · rename_i p hpp
        split
        · refine (ih (ys := ys.set pos p) (pos := (pos - 1) / 2) (by omega) (by rw [List.length_set]; omega)).trans ?_
          exact perm_swap (by omega) hp hpp
        · exact .refl _
theorem push_perm {xs : List VE} {p : VE} : (pushF xs p).Perm (xs ++ [p]) := by
  have := sd_perm (x := p) (ys := xs ++ [p]) (pos := xs.length) (Nat.le_refl _) (by simp)
  rw [pushF]
  refine this.trans ?_
  rw [show (xs ++ [p]).set xs.length p = xs ++ [p] by simp]
theorem su_perm {x : VE} : ∀ {n : Nat} {ys : List VE} {pos : Nat}, ys.length - pos ≤ n → pos < ys.length → ((suLoop ys pos).1.set (suLoop ys pos).2 x).Perm (ys.set pos x) ∧ (suLoop ys pos).2 < (suLoop ys pos).1.length := by
  intro n
  induction n with
  | zero => intro ys pos hn hp; omega
  | succ n ih =>
    intro ys pos hn hp
    rw [suLoop]
    split
    · rename_i h
      have hc := suChild_lt h
      split
      · rename_i q hq
        obtain ⟨h1, h2⟩ := ih (ys := ys.set pos q) (pos := suChild ys pos) (by rw [List.length_set]; omega) (by rw [List.length_set]; exact hc.2)
        exact ⟨h1.trans (perm_swap (by omega) hp hq), h2⟩
      · exact ⟨.refl _, hp⟩
    · exact ⟨.refl _, hp⟩
theorem pop_perm {ys : List VE} {last : VE} : ((popF ys last).1 :: (popF ys last).2).Perm (ys ++ [last]) := by
  cases ys with
  | nil => exact .refl _
  | cons y r =>
    show (y :: sdLoop last ((suLoop (last :: r) 0).1.set (suLoop (last :: r) 0).2 last) (suLoop (last :: r) 0).2).Perm (y :: (r ++ [last]))
    refine List.Perm.cons y ?_
    obtain ⟨h1, h2⟩ := su_perm (x := last) (ys := last :: r) (pos := 0) (Nat.le_refl _) (by simp)
    refine (sd_perm (n := (suLoop (last :: r) 0).2) (Nat.le_refl _) (by rw [List.length_set]; exact h2)).trans ?_
    rw [List.set_set]
    refine h1.trans ?_
    show (last :: r).Perm (r ++ [last])
    exact (List.perm_append_singleton last r).symm

/-- the walk begins anew -/
theorem anewP3 {M : Model} {A : Around} {E : Value → Shared → Prop} {Q : Value → Shared → Prop} {s : Shared} {env : Env} (h : ∀ v s', Q v s') : wpAny M A (eval (.Constant (.int 0) 0 ⟨0, 0, 0, 0⟩) env) Q E s := by
  w_top off
  first
    | (walk1; exact h _ _)
    | exact wpAny_Constant_int (h _ _)
theorem par_lt {i : Nat} (h : 0 < i) : (i - 1) / 2 < i := Nat.lt_of_le_of_lt (Nat.div_le_self _ _) (Nat.sub_lt h Nat.one_pos)
theorem par_cases {i p : Nat} (h : 0 < i) (e : (i - 1) / 2 = p) : i = 2 * p + 1 ∨ i = 2 * p + 2 := by omega
theorem strLt_asymm {x y : Str} (h : strLt x y = true) : strLt y x = false := by
  simp only [strLt, decide_eq_true_eq, decide_eq_false_iff_not] at h ⊢
  exact fun k => List.lt_asymm h k
theorem strLt_trans {x y z : Str} (h : strLt x y = false) (k : strLt y z = false) : strLt x z = false := by
  simp only [strLt, decide_eq_false_iff_not] at h k ⊢
  have h1 : y.cps.toList ≤ x.cps.toList := List.not_lt.mp h
  have h2 : z.cps.toList ≤ y.cps.toList := List.not_lt.mp k
  exact List.not_lt.mpr (List.le_trans h2 h1)
theorem ent_asymm {p q : Int × Str} (h : entLt p q = true) : entLt q p = false := by
  unfold entLt at h ⊢
  by_cases h1 : p.1 = q.1
  · rw [if_pos (by simpa using h1)] at h
    rw [if_pos (by simpa using h1.symm)]
    by_cases h2 : p.2 = q.2
    · rw [if_pos (by simpa using h2)] at h; cases h
    · rw [if_neg (by simpa using h2)] at h
      rw [if_neg (by simpa using fun e => h2 e.symm)]
      exact strLt_asymm h
  · rw [if_neg (by simpa using h1)] at h
    rw [if_neg (by simpa using fun e => h1 e.symm)]
    simp only [decide_eq_true_eq, decide_eq_false_iff_not] at h ⊢
    omega
theorem strLt_irr (x : Str) : strLt x x = false := by
  cases h : strLt x x with
  | false => rfl
  | true => exact (strLt_asymm h).symm.trans h |>.symm ▸ rfl
theorem ent_eq {p q : Int × Str} : entLt p q = if p.1 = q.1 then strLt p.2 q.2 else decide (p.1 < q.1) := by
  unfold entLt
  by_cases h1 : p.1 = q.1
  · rw [if_pos (by simpa using h1), if_pos h1]
    by_cases h2 : p.2 = q.2
    · rw [if_pos (by simpa using h2), h2, strLt_irr]
    · rw [if_neg (by simpa using h2)]
  · rw [if_neg (by simpa using h1), if_neg h1]
theorem ent_trans {p q r : Int × Str} (h : entLt p q = false) (k : entLt q r = false) : entLt p r = false := by
  rw [ent_eq] at h k ⊢
  split at h <;> split at k <;> split
  all_goals (try simp only [decide_eq_false_iff_not] at *)
  · exact strLt_trans h k
  all_goals omega

/-- the walk begins anew -/
theorem anewP4 {M : Model} {A : Around} {E : Value → Shared → Prop} {Q : Value → Shared → Prop} {s : Shared} {env : Env} (h : ∀ v s', Q v s') : wpAny M A (eval (.Constant (.int 0) 0 ⟨0, 0, 0, 0⟩) env) Q E s := by
  w_top off
  first
    | (walk1; exact h _ _)
    | exact wpAny_Constant_int (h _ _)
def IsHeap (ys : List VE) : Prop := ∀ i p q, 0 < i → ys[i]? = some p → ys[(i - 1) / 2]? = some q → entLt p.2 q.2 = false
/-- a heap but for the place pos, where x is to stand -/
structure Hole (x : VE) (ys : List VE) (pos : Nat) : Prop where
  far : ∀ i p q, 0 < i → i ≠ pos → (i - 1) / 2 ≠ pos → ys[i]? = some p → ys[(i - 1) / 2]? = some q → entLt p.2 q.2 = false
  kid : ∀ i p, 0 < i → (i - 1) / 2 = pos → ys[i]? = some p → entLt p.2 x.2 = false
  top : ∀ i p q, 0 < i → (i - 1) / 2 = pos → 0 < pos → ys[i]? = some p → ys[(pos - 1) / 2]? = some q → entLt p.2 q.2 = false
theorem hole_put {x : VE} {ys : List VE} {pos : Nat} (H : Hole x ys pos) (hp : pos < ys.length) (h : ∀ q, 0 < pos → ys[(pos - 1) / 2]? = some q → entLt x.2 q.2 = false) : IsHeap (ys.set pos x) := by
  intro i p q hi h1 h2
  by_cases e1 : i = pos
  · subst e1
    rw [List.getElem?_set_self hp] at h1
    cases h1
    rw [List.getElem?_set_ne (Nat.ne_of_gt (par_lt hi))] at h2
    exact h q hi h2
  · rw [List.getElem?_set_ne (fun e => e1 e.symm)] at h1
    by_cases e2 : (i - 1) / 2 = pos
    · rw [e2, List.getElem?_set_self hp] at h2
      cases h2
      exact H.kid i p hi e2 h1
    · rw [List.getElem?_set_ne (fun e => e2 e.symm)] at h2
      exact H.far i p q hi e1 e2 h1 h2
theorem sd_heap {x : VE} : ∀ {n : Nat} {ys : List VE} {pos : Nat}, pos ≤ n → pos < ys.length → Hole x ys pos → IsHeap (sdLoop x ys pos) := by
  intro n
  induction n with
  | zero =>
    intro ys pos hn hp H
    obtain rfl : pos = 0 := by omega
    rw [sdLoop, dif_pos rfl]
    exact hole_put H hp fun q h => absurd h (Nat.lt_irrefl _)
  | succ n ih =>
    intro ys pos hn hp H
    rw [sdLoop]
    split
    · rename_i h0
      subst h0
      exact hole_put H hp fun q h => absurd h (Nat.lt_irrefl _)
    · rename_i h0
      have h0 := Nat.pos_of_ne_zero h0
      have hpar : (pos - 1) / 2 < ys.length := Nat.lt_trans (par_lt h0) hp
      split
      · rename_i hnone
        exact absurd hpar (Nat.not_lt.mpr (List.getElem?_eq_none_iff.mp hnone))
      · rename_i p hpp
        split
        · rename_i hlt
          refine ih (Nat.le_of_lt_succ (Nat.lt_of_lt_of_le (par_lt h0) hn)) (by rw [List.length_set]; exact hpar) ⟨?_, ?_, ?_⟩
          · intro i a b hi e1 e2 h1 h2
            by_cases e3 : i = pos
            · subst e3; exact absurd rfl e2
            · rw [List.getElem?_set_ne (fun e => e3 e.symm)] at h1
              by_cases e4 : (i - 1) / 2 = pos
              · rw [e4, List.getElem?_set_self hp] at h2
                cases h2
                exact H.top i a p hi e4 h0 h1 hpp
              · rw [List.getElem?_set_ne (fun e => e4 e.symm)] at h2
                exact H.far i a b hi e3 e4 h1 h2
          · intro i a hi e1 h1
            by_cases e3 : i = pos
            · subst e3
              rw [List.getElem?_set_self hp] at h1
              cases h1
              exact ent_asymm hlt
            · rw [List.getElem?_set_ne (fun e => e3 e.symm)] at h1
              have h2 : ys[(i - 1) / 2]? = some p := by rw [e1]; exact hpp
              exact ent_trans (H.far i a p hi e3 (fun e => Nat.ne_of_lt (par_lt h0) (e1.symm.trans e)) h1 h2) (ent_asymm hlt)
          · intro i a b hi e1 e2 h1 h2
            have l2 := Nat.lt_trans (par_lt e2) (par_lt h0)
            rw [List.getElem?_set_ne (Nat.ne_of_gt l2)] at h2
            have h3 := H.far ((pos - 1) / 2) p b e2 (Nat.ne_of_lt (par_lt h0)) (Nat.ne_of_lt l2) hpp h2
            by_cases e3 : i = pos
            · subst e3
              rw [List.getElem?_set_self hp] at h1
              cases h1
              exact h3
            · rw [List.getElem?_set_ne (fun e => e3 e.symm)] at h1
              have h4 : ys[(i - 1) / 2]? = some p := by rw [e1]; exact hpp
              exact ent_trans (H.far i a p hi e3 (fun e => Nat.ne_of_lt (par_lt h0) (e1.symm.trans e)) h1 h4) h3
        · rename_i hlt
          refine hole_put H hp fun q _ hq => ?_
          rw [hpp] at hq
          cases hq
          cases hb : entLt x.2 p.2 with
          | false => rfl
          | true => exact absurd hb hlt
theorem push_heap {xs : List VE} {p : VE} (h : IsHeap xs) : IsHeap (pushF xs p) := by
  rw [pushF]
  refine sd_heap (Nat.le_refl _) (by simp) ⟨?_, ?_, ?_⟩
  · intro i a b hi e1 e2 h1 h2
    have hl : i < xs.length := by
      have := (List.getElem?_eq_some_iff.mp h1).1
      simp at this
      omega
    rw [List.getElem?_append_left hl] at h1
    rw [List.getElem?_append_left (Nat.lt_trans (par_lt hi) hl)] at h2
    exact h i a b hi h1 h2
  · intro i a hi e1 h1
    have := (List.getElem?_eq_some_iff.mp h1).1
    simp at this
    exact absurd (e1 ▸ par_lt hi) (Nat.not_lt.mpr (Nat.le_of_lt_succ this))
  · intro i a b hi e1 e2 h1 h2
    have := (List.getElem?_eq_some_iff.mp h1).1
    simp at this
    exact absurd (e1 ▸ par_lt hi) (Nat.not_lt.mpr (Nat.le_of_lt_succ this))

/-- the walk begins anew -/
theorem anewP5 {M : Model} {A : Around} {E : Value → Shared → Prop} {Q : Value → Shared → Prop} {s : Shared} {env : Env} (h : ∀ v s', Q v s') : wpAny M A (eval (.Constant (.int 0) 0 ⟨0, 0, 0, 0⟩) env) Q E s := by
  w_top off
  first
    | (walk1; exact h _ _)
    | exact wpAny_Constant_int (h _ _)
structure Gap (ys : List VE) (pos : Nat) : Prop where
  far : ∀ i p q, 0 < i → i ≠ pos → (i - 1) / 2 ≠ pos → ys[i]? = some p → ys[(i - 1) / 2]? = some q → entLt p.2 q.2 = false
  top : ∀ i p q, 0 < i → (i - 1) / 2 = pos → 0 < pos → ys[i]? = some p → ys[(pos - 1) / 2]? = some q → entLt p.2 q.2 = false
theorem ent_irr (e : Int × Str) : entLt e e = false := by
  cases hb : entLt e e with
  | false => rfl
  | true => have := ent_asymm hb; rw [hb] at this; cases this
theorem child_min {ys : List VE} {pos : Nat} {q : VE} (h : 2 * pos + 1 < ys.length) (hq : ys[suChild ys pos]? = some q) : (suChild ys pos - 1) / 2 = pos ∧ ∀ i p, 0 < i → (i - 1) / 2 = pos → ys[i]? = some p → entLt p.2 q.2 = false := by
  unfold suChild at hq ⊢
  split at hq
  · rename_i l r hl hr
    split at hq
    · rename_i hlt
      rw [if_pos hlt]
      rw [hl] at hq
      cases hq
      refine ⟨by omega, fun i p hi e hp => ?_⟩
      have := par_cases hi e
      rcases this with rfl | rfl
      · rw [hl] at hp
        cases hp
        exact ent_irr _
      · rw [hr] at hp
        cases hp
        exact ent_asymm hlt
    · rename_i hlt
      rw [if_neg hlt]
      rw [hr] at hq
      cases hq
      refine ⟨by omega, fun i p hi e hp => ?_⟩
      have := par_cases hi e
      rcases this with rfl | rfl
      · rw [hl] at hp
        cases hp
        exact Bool.eq_false_iff.mpr hlt
      · rw [hr] at hp
        cases hp
        exact ent_irr _
  · rename_i hno
    refine ⟨by omega, fun i p hi e hp => ?_⟩
    have := par_cases hi e
    rcases this with rfl | rfl
    · rw [hq] at hp
      cases hp
      exact ent_irr _
    · exact (hno _ _ hq hp).elim
theorem su_gap : ∀ {n : Nat} {ys : List VE} {pos : Nat}, ys.length - pos ≤ n → pos < ys.length → Gap ys pos → Gap (suLoop ys pos).1 (suLoop ys pos).2 ∧ (suLoop ys pos).1.length ≤ 2 * (suLoop ys pos).2 + 1 := by
  intro n
  induction n with
  | zero => intro ys pos hn hp; omega
  | succ n ih =>
    intro ys pos hn hp H
    rw [suLoop]
    split
    · rename_i h
      have hc := suChild_lt h
      split
      · rename_i q hq
        obtain ⟨hpar, hmin⟩ := child_min h hq
        refine ih (by rw [List.length_set]; exact Nat.le_of_lt_succ (Nat.lt_of_lt_of_le (Nat.sub_lt_sub_left hp hc.1) hn)) (by rw [List.length_set]; exact hc.2) ⟨?_, ?_⟩
        · intro i a b hi e1 e2 h1 h2
          by_cases e3 : i = pos
          · subst e3
            rw [List.getElem?_set_self hp] at h1
            cases h1
            rw [List.getElem?_set_ne (Nat.ne_of_gt (par_lt hi))] at h2
            exact H.top _ q b (Nat.lt_of_le_of_lt (Nat.zero_le _) hc.1) hpar hi hq h2
          · rw [List.getElem?_set_ne (fun e => e3 e.symm)] at h1
            by_cases e4 : (i - 1) / 2 = pos
            · rw [e4, List.getElem?_set_self hp] at h2
              cases h2
              exact hmin i a hi e4 h1
            · rw [List.getElem?_set_ne (fun e => e4 e.symm)] at h2
              exact H.far i a b hi e3 e4 h1 h2
        · intro i a b hi e1 e2 h1 h2
          rw [hpar, List.getElem?_set_self hp] at h2
          cases h2
          rw [List.getElem?_set_ne (by omega)] at h1
          exact H.far i a q hi (by omega) (by omega) h1 (by rw [e1]; exact hq)
      · rename_i hnone
        rw [List.getElem?_eq_none_iff] at hnone
        omega
    · exact ⟨H, by dsimp only; omega⟩
theorem pop_heap {ys : List VE} {last : VE} (h : IsHeap (ys ++ [last])) : IsHeap (popF ys last).2 := by
  cases ys with
  | nil => intro i p q _ e; cases e
  | cons y r =>
    show IsHeap (sdLoop last ((suLoop (last :: r) 0).1.set (suLoop (last :: r) 0).2 last) (suLoop (last :: r) 0).2)
    obtain ⟨h1, h2⟩ := su_perm (x := last) (ys := last :: r) (pos := 0) (Nat.le_refl _) (by simp)
    obtain ⟨g, hl⟩ := su_gap (ys := last :: r) (pos := 0) (Nat.le_refl _) (by simp) ⟨fun i p q hi e1 e2 h1 h2 => by
      have get : ∀ j z, 0 < j → (last :: r)[j]? = some z → ((y :: r) ++ [last])[j]? = some z := fun j z hj e => by
        cases j with
        | zero => omega
        | succ j =>
          have e : r[j]? = some z := e
          show (r ++ [last])[j]? = some z
          rw [List.getElem?_append_left (List.getElem?_eq_some_iff.mp e).1]
          exact e
      exact h i p q hi (get i p hi h1) (get _ q (by omega) h2), fun i p q _ _ h0 => absurd h0 (Nat.lt_irrefl _)⟩
    refine sd_heap (Nat.le_refl _) (by rw [List.length_set]; exact h2) ⟨fun i p q hi e1 e2 a b => ?_, fun i p hi e a => ?_, fun i p q hi e _ a _ => ?_⟩
    · rw [List.getElem?_set_ne (fun e => e1 e.symm)] at a
      rw [List.getElem?_set_ne (fun e => e2 e.symm)] at b
      exact g.far i p q hi e1 e2 a b
    · have := (List.getElem?_eq_some_iff.mp a).1
      rw [List.length_set] at this
      omega
    · have := (List.getElem?_eq_some_iff.mp a).1
      rw [List.length_set] at this
      omega
theorem root_min {ys : List VE} (h : IsHeap ys) {y : VE} (hy : ys[0]? = some y) : ∀ (n i : Nat) (p : VE), i ≤ n → ys[i]? = some p → entLt p.2 y.2 = false := by
  have irr : ∀ e : VE, entLt e.2 e.2 = false := fun e => by
    cases hb : entLt e.2 e.2 with
    | false => rfl
    | true => have := ent_asymm hb; rw [hb] at this; cases this
  intro n
  induction n with
  | zero =>
    intro i p hi e
    obtain rfl : i = 0 := by omega
    rw [hy] at e
    cases e
    exact irr _
  | succ n ih =>
    intro i p hi e
    by_cases h0 : i = 0
    · subst h0
      rw [hy] at e
      cases e
      exact irr _
    · have hlt := (List.getElem?_eq_some_iff.mp e).1
      have e2 := List.getElem?_eq_getElem (l := ys) (i := (i - 1) / 2) (by omega)
      exact ent_trans (h i p _ (by omega) e e2) (ih _ _ (by omega) e2)
theorem pop_min {ys : List VE} {last : VE} (h : IsHeap (ys ++ [last])) : ∀ q ∈ (popF ys last).2, entLt q.2 (popF ys last).1.2 = false := by
  cases ys with
  | nil => intro q hq; cases hq
  | cons y r =>
    intro q hq
    have hm : q ∈ (y :: r) ++ [last] := (pop_perm (ys := y :: r) (last := last)).subset (.tail _ hq)
    obtain ⟨i, hi⟩ := List.getElem?_of_mem hm
    exact root_min h (y := y) rfl i i q (Nat.le_refl _) hi

/-- the walk begins anew -/
theorem anewW1 {M : Model} {A : Around} {E : Value → Shared → Prop} {Q : Value → Shared → Prop} {s : Shared} {env : Env} (h : ∀ v s', Q v s') : wpAny M A (eval (.Constant (.int 0) 0 ⟨0, 0, 0, 0⟩) env) Q E s := by
  w_top off
  first
    | (walk1; exact h _ _)
    | exact wpAny_Constant_int (h _ _)
local macro_rules | `(tactic| walk_at "exec For") => `(tactic| refine Stop.out ?_)
local macro_rules | `(tactic| walk_at "compareOp NotEq ref ref") => `(tactic| (k_here; (with_reducible show wpAny _ _ (compareOp CmpOp.NotEq (Value.ref _) (Value.ref _)) _ _ _); k_dflt (refine' ne_empty ?x ?y ?u ?_; (case x => walk_at "I"); (case y => walk_at "J"); (case u => walk_at "U"); k_whole)))
local macro_rules | `(tactic| walk_at "compareOp NotIn str ref") => `(tactic| (k_here; (with_reducible show wpAny _ _ (compareOp CmpOp.NotIn (Value.str _ _) (Value.ref _)) _ _ _); k_dflt (refine' notIn_strs ?x ?y ?_; (case x => walk_at "I"); (case y => assumption); k_whole)))
local macro_rules | `(tactic| walk_at "subscriptTail Name Name ref str") => `(tactic| (k_here; (with_reducible show wpAny _ _ (subscriptTail _ _ (Value.ref _) (Value.str _ _)) _ _ _); k_dflt (refine' item_dict ?x ?y ?_; (case x => exact Heap.DictOf.at (by assumption) (fun o e => Fr.keep (by assumption) _ o e)); (case y => assumption); k_whole)))
local macro_rules | `(tactic| walk_at "binaryOp Add ref ref") => `(tactic| (k_here; (with_reducible show wpAny _ _ (binaryOp _ (Value.ref _) (Value.ref _)) _ _ _); k_dflt (refine' add_any ?F ?N ?x ?y ?z ?_; (case F => k_asm); (case N => k_asm); (case x => walk_at "I"); (case y => walk_at "I"); (case z => first | omega | (simp only [strValues, List.length_append, List.length_map, List.length_cons, List.length_nil]; omega)); k_whole); intro B' h' F' N' l1; (try k_lt l1)))
/-- what the walk over a graph keeps true -/
structure WalkInv (G : Str → List Str) (PS : Str → Prop) (page : Str) where
  Inv : List Str → List Ent → Prop
  init : Inv [] [(0, page)]
  perm : ∀ {k es es'}, Inv k es → es.Perm es' → Inv k es'
  new : ∀ {k e es}, Inv k (e :: es) → (∀ q ∈ es, entLt q e = false) → e.2 ∉ k → Inv (k ++ [e.2]) (es ++ (G e.2).map fun g => (e.1 + 1, g))
  old : ∀ {k e es}, Inv k (e :: es) → (∀ q ∈ es, entLt q e = false) → e.2 ∈ k → Inv k es
  ok : ∀ {k e es}, Inv k (e :: es) → PS e.2
  small : ∀ {k es}, Inv k es → k.length ≤ 5 ∧ es.length ≤ 100
  deg : ∀ {p}, PS p → (G p).length ≤ 4
def EntIn (ents : List (Addr × Obj)) (p : VE) : Prop := ∃ b t u n, p.1 = .ref b ∧ (b, listOf #[.int p.2.1 t, .str p.2.2 u] n) ∈ ents
/-- the dict of the links, as it stands in a heap -/
def LeadsAt (w : World) (g : Heap) (d : Addr) (G : Str → List Str) (PS : Str → Prop) : Prop :=
  ∃ kvs, g.DictOf (PySem.strKind PySem.Challenge.rw_ik0054_01.row.prog w) d kvs ∧ ∀ p, PS p → ∃ gl gvs gn, valueAt kvs p = some (.ref gl) ∧ g.get? gl = some (listOf gvs.toArray gn) ∧ StrsAre gvs (G p)
theorem newsHide {g h h' : Heap} {L a : Addr} {o o' : Obj} {news rest : List (Addr × Obj)} (N : News g L h news) (ha : (a, o) ∈ news) (hsub : ∀ p ∈ rest, p ∈ news ∧ p.1 ≠ a) (e5 : Ext (hideAll h [a]) h') (g5 : h'.get? a = some o') : News g L h' ((a, o') :: rest) := by
  intro p hp
  rcases List.mem_cons.mp hp with rfl | hp
  · exact ⟨g5, (N _ ha).2⟩
  · obtain ⟨h1, h2⟩ := hsub p hp
    exact ⟨e5 _ _ (hideAll_get [a] (N _ h1).1 (fun hm => h2 (List.mem_singleton.mp hm))), (N _ h1).2⟩
theorem EntIn.at {g h : Heap} {L a : Addr} {news ents : List (Addr × Obj)} {p : VE} (x : EntIn ents p) (N : News g L h news) (hs : ∀ q ∈ ents, q ∈ news ∧ q.1 ≠ a) : EntAt (hideAll h [a]) p := by
  obtain ⟨b, t, u, n, e, hb⟩ := x
  obtain ⟨h1, h2⟩ := hs _ hb
  exact ⟨b, t, u, n, e, hideAll_get [a] (N _ h1).1 (fun hm => h2 (List.mem_singleton.mp hm))⟩
theorem lt_of_all {d : Addr} {l : List (Addr × Obj)} (h : AllLt d l) : ∀ p ∈ l, p.1 < d := by
  induction l with
  | nil => intro p hp; cases hp
  | cons x l ih =>
    intro p hp
    rcases List.mem_cons.mp hp with rfl | hp
    · exact h.1
    · exact ih h.2 p hp
theorem strsAre_get {vs : List Value} {xs : List Str} (h : StrsAre vs xs) : ∀ {i : Nat} {v : Value}, vs[i]? = some v → ∃ x t, v = .str x t ∧ xs[i]? = some x := by
  induction h with
  | nil => intro i v e; cases e
  | cons n t _ ih =>
    intro i v e
    cases i with
    | zero => cases e; exact ⟨n, t, rfl, rfl⟩
    | succ i => exact ih e
theorem strsAre_len {vs : List Value} {xs : List Str} (h : StrsAre vs xs) : vs.length = xs.length := by
  induction h with
  | nil => rfl
  | cons n t _ ih => simp [ih]
section
variable {w : World} {mean : ExcName → Option Value} {mg mb : Str → Option Value} {A : Around} {s : Shared} {E : Value → Shared → Prop} {Q : Value → Shared → Prop}
set_option maxHeartbeats 4000000 in
theorem law_walk {G : Str → List Str} {PS : Str → Prop} {page : Str} (V : WalkInv G PS page) {tp : Tok} {d : Addr} (W : WF w mean mg mb s.heap) (hD : LeadsAt w s.heap d G PS)
   (hd : A.depth + 40 < recursionLimit) (hu : A.units + 300 < cLine) (hh : A.handled = none)
   (ret : ∀ k kept kn h' tk', Ext s.heap h' → s.heap.get? k = none → h'.get? k = some (listOf (strValues kept).toArray kn) → V.Inv (kept.map (·.1)) [] → Q (.ref k) { s with heap := h', toks := tk' }) :
   wpAny (MD w) A (call (.ref 199) [.str page tp, .ref d]) Q E s := by
  obtain ⟨hd0, dp, fr, gd, un⟩ := A
  cases hh
  dsimp only at hd hu
  refine wpAny_call ?_
  k_dflt (refine' enter (as := []) (news := []) (binds := [(Str.ofString "page", .str page tp), (Str.ofString "leads", .ref d)]) W ?kn ?k6 ?k7 ?k8 ?k9 ?kB ?_ ?c2 ?c3 ?c4 ?c5)
  case kn => exact fun _ h => nomatch h
  (case k6 => k_is); (case k7 => k_is); (case k8 => ((try dsimp only); omega)); (case k9 => exact BindsTo.of_eq rfl)
  (case c5 => decide); (case kB => exact locs rfl); (case c2 => exact rfl); (case c3 => exact rfl); (case c4 => exact rfl); k_whole
  intro g' L' h' F' N' X' T' hg'
  have hg0 : g' = s.heap := hg'
  subst hg0
  try k_fold
  k_steps
  rename Fr _ _ _ _ => F1
  rename News _ _ _ _ => N1
  rename_i e0 _ _ a _ l1b k _ l1c D _ l1d _ _ hz
  unfold Stop
  obtain ⟨kvs, hdict, hleads⟩ := hD
  have N1' : ∃ t, News s.heap L' hz [(D, { cls := Value.type "tuple", data := Data.seq #[Value.ref a, Value.ref k] }), (k, listOf #[] 0), (a, listOf #[Value.ref e0] 0), (e0, listOf #[.int 0 t, .str page tp] 0)] := ⟨_, N1⟩
  obtain ⟨te, N1⟩ := N1'
  refine while_k (σ := (List VE × Nat) × (Addr × List (Str × Tok) × Nat) × List (Addr × Obj)) (fun c => (a, listOf (c.1.1.map (·.1)).toArray c.1.2) :: (c.2.1.1, listOf (strValues c.2.1.2.1).toArray c.2.1.2.2) :: c.2.2)
    (fun c => [(Str.ofString "kept", .ref c.2.1.1)]) [Str.ofString "heap", Str.ofString "leads"] (fun c => 5 * (5 - c.2.1.2.1.length) + c.1.1.length)
    (fun c => IsHeap c.1.1 ∧ (∀ p ∈ c.1.1, EntIn c.2.2 p) ∧ V.Inv (c.2.1.2.1.map (·.1)) (c.1.1.map (·.2)) ∧ c.2.1.1 ≠ a ∧ ∀ p ∈ c.2.2, p.1 ≠ a) (([(Value.ref e0, ((0 : Int), page))], 0), (k, [], 0), [(e0, listOf #[.int 0 te, .str page tp] 0)]) F1 N1 ?hN (And.intro rfl trivial) ?hp ?turn
  case hN => intro p hp; rcases List.mem_cons.mp hp with rfl | hp; exact .tail _ (.tail _ (.head _)); rcases List.mem_cons.mp hp with rfl | hp; exact .tail _ (.head _); obtain rfl := List.mem_singleton.mp hp; exact .tail _ (.tail _ (.tail _ (.head _)))
  case hp =>
    refine ⟨?_, ?_, V.init, ?_, ?_⟩
    · intro i p q hi h1 _
      match i, hi, h1 with
      | i + 1, _, h1 => cases h1
    · intro p hp; obtain rfl := List.mem_singleton.mp hp; exact ⟨e0, _, _, _, rfl, .head _⟩
    · exact Nat.ne_of_gt l1c.1
    · intro p hp; obtain rfl := List.mem_singleton.mp hp; exact Nat.ne_of_lt l1b
  case turn =>
    rintro ⟨⟨xs, n⟩, ⟨k1, kept, kn⟩, ents⟩ u h tk ⟨hh1, hen, hinv, hka, hea⟩ F2 N2
    clear F1 N1
    dsimp only at hh1 hen hinv hka hea
    have F3 : Fr s.heap L' h (fun y => if y = Str.ofString "kept" then some (.ref k1) else if y = Str.ofString "heap" then some (.ref a) else if y = Str.ofString "leads" then some (.ref d) else u y) := F2
    clear F2
    have N3 : News s.heap L' h ((a, listOf (xs.map (·.1)).toArray n) :: (k1, listOf (strValues kept).toArray kn) :: ents) := N2
    clear N2
    have hsm := V.small hinv
    rw [List.length_map, List.length_map] at hsm
    rcases List.eq_nil_or_concat xs with rfl | ⟨ys, last, rfl⟩
    · k_steps
      walk_at "Ends"
      rename Fr _ _ _ _ => F4
      rename News _ _ _ _ => N4
      exact ret k1 kept kn _ _ F4.keep (N4 _ (.tail _ (.tail _ (.head _)))).2.2 (N4 _ (.tail _ (.tail _ (.head _)))).1 hinv
    · rw [List.concat_eq_append] at hinv hh1 hen hsm
      simp only [List.concat_eq_append, List.map_append, List.map_cons, List.map_nil] at N3
      have hin : ∀ q ∈ ents, q ∈ (a, listOf (ys.map (·.1) ++ [last.1]).toArray n) :: (k1, listOf (strValues kept).toArray kn) :: ents := fun q hq => .tail _ (.tail _ hq)
      k_steps
      · rename List.isEmpty _ = true => hie
        simp at hie
      rename Fr _ _ _ _ => F4
      rename News _ _ _ _ => N4
      have hma : ∀ b ∈ [a], s.heap.get? b = none := fun b hb => by obtain rfl := List.mem_singleton.mp hb; exact (N4 _ (.tail _ (.head _))).2.2
      have up := hide_up F4 hma
      have hLa : L' ∉ [a] := fun h => (N4 _ (.tail _ (.head _))).2.1 (List.mem_singleton.mp h).symm
      have hat : ∀ p, EntIn ents p → EntAt (hideAll _ [a]) p := fun p hp => hp.at N4 fun q hq => ⟨.tail _ (.tail _ (.tail _ hq)), hea q hq⟩
      rw [List.length_append, List.length_singleton] at hsm
      refine heappop (ys := ys) (last := last) (n := n) (WF.keeps ⟨X', T'⟩ up) (N4 _ (.tail _ (.head _))).1 (fun q hq => hat q (hen q (List.mem_append_left _ hq))) (hat _ (hen _ (List.mem_append_right _ (.head _)))) (by omega) ?kd ?ku rfl ?_
      case kd => walk_at "D"
      case ku => walk_at "U"
      intro h5 tk5 n5 e5 g5
      have F5 := frHide F4 hma hLa e5
      have N5 : News s.heap L' h5 ((a, listOf ((popF ys last).2.map (·.1)).toArray n5) :: (k1, listOf (strValues kept).toArray kn) :: ents) := newsHide N4 (.tail _ (.head _)) (fun p hp => by
        rcases List.mem_cons.mp hp with rfl | hp
        · exact ⟨.tail _ (.tail _ (.head _)), hka⟩
        · exact ⟨.tail _ (.tail _ (.tail _ hp)), hea p hp⟩) e5 g5
      clear F4 N4
      have hperm := pop_perm (ys := ys) (last := last)
      have hheap := pop_heap hh1
      have hmin := pop_min hh1
      generalize hpop : popF ys last = R at *
      obtain ⟨⟨tv, ⟨td, tp'⟩⟩, rest⟩ := R
      dsimp only at hperm hheap hmin N5
      have hentop : ∀ q ∈ (tv, (td, tp')) :: rest, EntIn ents q := fun q hq => hen q ((hperm.mem_iff).mp hq)
      obtain ⟨bt, tt, ut, nt, etv, hbt⟩ := hentop _ (.head _)
      dsimp only at etv hbt
      subst etv
      have hinv2 : V.Inv (kept.map (·.1)) ((td, tp') :: rest.map (·.2)) := V.perm hinv (by simpa using (hperm.map (·.2)).symm)
      have hmin2 : ∀ q ∈ rest.map (·.2), entLt q (td, tp') = false := fun q hq => by obtain ⟨p, hp, rfl⟩ := List.mem_map.mp hq; exact hmin p hp
      have hPS := V.ok hinv2
      obtain ⟨gl, gvs, gn, hval, hgl, hgs⟩ := hleads tp' hPS
      have hisl : h5.IsList bt #[.int td tt, .str tp' ut] := ⟨_, (N5 _ (.tail _ (.tail _ hbt))).1, rfl, nt, rfl⟩
      have hsk := strsAre_of_values kept
      dsimp only
      k_steps
      · show TurnEnd _ _ _ _ _ _ _ _
        rename List.any _ _ = true => hany
        rename Fr _ _ _ _ => F6
        rename News _ _ _ _ => N6
        have hmem : tp' ∈ kept.map (·.1) := by obtain ⟨x, hx, e⟩ := List.any_eq_true.mp hany; exact eq_of_beq e ▸ hx
        refine TurnEnd.mk ((rest, n5), (k1, kept, kn), ents) F6 N6 (by rw [List.append_nil]; exact fun _ h => h) ⟨rfl, rfl, rfl, trivial⟩ ⟨?_, hheap, fun q hq => hentop q (.tail _ hq), V.old hinv2 hmin2 hmem, hka, hea⟩
        have := hperm.length_eq
        simp only [List.length_cons, List.length_append, List.length_nil] at this
        show 5 * (5 - kept.length) + rest.length < 5 * (5 - kept.length) + _
        rw [List.concat_eq_append, List.length_append, List.length_singleton]
        omega
      · rename Fr _ _ _ _ => F6
        rename News _ _ _ _ => N6
        rename List.any _ _ = false => hany
        rename_i pl _ lpl B _ lB _
        have hnew : tp' ∉ kept.map (·.1) := fun hm => by have hy : (kept.map (·.1)).any (fun x => x == tp') = true := List.any_eq_true.mpr ⟨tp', hm, beq_self_eq_true tp'⟩; rw [hy] at hany; cases hany
        have hinv3 := V.new hinv2 hmin2 hnew
        have hdeg : (G tp').length ≤ 4 := V.deg hPS
        have hsm3 := V.small hinv3
        have hlB : ∀ q ∈ ents, q.1 < B := lt_of_all lB.2.2.2
        have haB : a ≠ B := Nat.ne_of_lt lB.2.1
        simp only [List.length_append, List.length_map, List.length_cons, List.length_nil] at hsm3
        unfold Stop
        with_unfolding_all refine For_invVF F6 (by rfl) (by rfl) ?_
        iterate 4 walk1
        rename Fr _ _ _ _ => F7
        rename News _ _ _ _ => N7
        refine for_k (σ := (List VE × Nat) × List (Addr × Obj)) (vs := gvs) (nn := gn) (fun c => (a, listOf (c.1.1.map (·.1)).toArray c.1.2) :: (B, listOf (strValues (kept ++ [(tp', ut)])).toArray 0) :: c.2) (fun _ => []) [Str.ofString "heap", Str.ofString "kept", Str.ofString "leads", Str.ofString "steps"]
          (fun i c => IsHeap c.1.1 ∧ (∀ q ∈ c.1.1, EntIn c.2 q) ∧ (c.1.1.map (·.2)).Perm (rest.map (·.2) ++ ((G tp').take i).map (fun g => (td + 1, g))) ∧ ∀ q ∈ c.2, q.1 ≠ a ∧ q.1 ≠ B) ((rest, n5), ents) rfl (F7.keep _ _ hgl) F7 N7 ?hN trivial ?hp (fun c h m F _ => F.keep _ _ hgl) ?turn ?done
        case hN =>
          intro p hp
          rcases List.mem_cons.mp hp with rfl | hp
          · exact .tail _ (.tail _ (.head _))
          rcases List.mem_cons.mp hp with rfl | hp
          · rw [show strValues (kept ++ [(tp', ut)]) = strValues kept ++ [Value.str tp' ut] from by simp [strValues]]; exact .head _
          · exact .tail _ (.tail _ (.tail _ (.tail _ hp)))
        case hp => exact ⟨hheap, fun q hq => hentop q (.tail _ hq), by simp, fun q hq => ⟨hea q hq, Nat.ne_of_lt (hlB q hq)⟩⟩
        case turn =>
          rintro i v ⟨⟨ys2, n2⟩, en2⟩ u2 I oI h tk hv ⟨ph, pe, pp, po⟩ hI F2 N2
          dsimp only at ph pe pp po
          obtain ⟨g, tg, rfl, hg⟩ := strsAre_get hgs hv
          have F3 : Fr s.heap L' h (fun y => if y = Str.ofString "goal" then some (.str g tg) else if y = Str.ofString "heap" then some (.ref a) else if y = Str.ofString "kept" then some (.ref B) else if y = Str.ofString "leads" then some (.ref d) else if y = Str.ofString "steps" then some (.int td _) else u2 y) := F2
          clear F2 F7 N7
          have N3 : News s.heap L' h ((a, listOf (ys2.map (·.1)).toArray n2) :: (B, listOf (strValues (kept ++ [(tp', ut)])).toArray 0) :: (en2 ++ [(I, oI)])) := N2
          clear N2
          k_steps
          rename Fr _ _ _ _ => F8
          rename News _ _ _ _ => N8
          rename_i b _ lb
          have hab : a ≠ b := Nat.ne_of_lt lb.1
          have hBb : B ≠ b := Nat.ne_of_lt lb.2.1
          have hlb : ∀ q ∈ en2 ++ [(I, oI)], q.1 < b := lt_of_all lb.2.2
          have hIa : a ≠ I := hI _ (.head _)
          have hma : ∀ b ∈ [a], s.heap.get? b = none := fun b hb => by obtain rfl := List.mem_singleton.mp hb; exact (N8 _ (.tail _ (.head _))).2.2
          have up := hide_up F8 hma
          have hLa : L' ∉ [a] := fun h => (N8 _ (.tail _ (.head _))).2.1 (List.mem_singleton.mp h).symm
          have hat : ∀ p, EntIn en2 p → EntAt (hideAll _ [a]) p := fun p hp => hp.at N8 fun q hq => ⟨.tail _ (.tail _ (.tail _ (List.mem_append_left _ hq))), (po q hq).1⟩
          have hlen2 : ys2.length ≤ 200 := by
            have := pp.length_eq
            simp only [List.length_map, List.length_append, List.length_take] at this
            omega
          refine heappush (xs := ys2) (n := n2) (p := (.ref b, (td + 1, g))) (WF.keeps ⟨X', T'⟩ up) (N8 _ (.tail _ (.head _))).1 (fun q hq => hat q (pe q hq)) ⟨b, _, _, 0, rfl, hideAll_get [a] (N8 _ (.head _)).1 (fun hm => hab (List.mem_singleton.mp hm).symm)⟩ (by omega) ?kd ?ku rfl ?_
          case kd => walk_at "D"
          case ku => walk_at "U"
          intro h6 tk6 e6 g6
          have F9 := frHide F8 hma hLa e6
          have N9 := newsHide (rest := (B, listOf (strValues (kept ++ [(tp', ut)])).toArray 0) :: (b, _) :: (en2 ++ [(I, oI)])) N8 (.tail _ (.head _)) (fun p hp => by
            rcases List.mem_cons.mp hp with rfl | hp
            · exact ⟨.tail _ (.tail _ (.head _)), Ne.symm haB⟩
            rcases List.mem_cons.mp hp with rfl | hp
            · exact ⟨.head _, Ne.symm hab⟩
            refine ⟨.tail _ (.tail _ (.tail _ hp)), ?_⟩
            rcases List.mem_append.mp hp with hp | hp
            · exact (po p hp).1
            · obtain rfl := List.mem_singleton.mp hp; exact Ne.symm hIa) e6 g6
          clear F8 N8
          dsimp only
          k_steps
          show TurnEnd _ _ _ _ _ _ _ _
          have htake : (G tp').take (i + 1) = (G tp').take i ++ [g] := by rw [List.take_add_one, hg]; rfl
          have hpp := (push_perm (xs := ys2) (p := (.ref b, (td + 1, g)))).map (·.2)
          refine TurnEnd.mk ((pushF ys2 (.ref b, (td + 1, g)), n2 + 1), (b, _) :: en2) F9 N9 (fun _ h => h) ⟨rfl, rfl, rfl, rfl, trivial⟩ ⟨⟨push_heap ph, ?_, ?_, ?_⟩, ?_⟩
          · intro q hq
            rcases List.mem_append.mp ((push_perm.mem_iff).mp hq) with hq | hq
            · obtain ⟨b1, t1, u1, n1, e1, hb1⟩ := pe q hq
              exact ⟨b1, t1, u1, n1, e1, .tail _ hb1⟩
            · obtain rfl := List.mem_singleton.mp hq
              exact ⟨b, _, _, _, rfl, .head _⟩
          · rw [htake, List.map_append, ← List.append_assoc]
            refine hpp.trans ?_
            rw [List.map_append]
            exact pp.append_right _
          · intro q hq
            rcases List.mem_cons.mp hq with rfl | hq
            · exact ⟨Ne.symm hab, Ne.symm hBb⟩
            · exact po q hq
          · intro q hq
            rcases List.mem_cons.mp hq with rfl | hq
            · exact hIa
            rcases List.mem_cons.mp hq with rfl | hq
            · exact hI _ (.tail _ (.head _))
            rcases List.mem_cons.mp hq with rfl | hq
            · exact Ne.symm (Nat.ne_of_lt (hlb (I, oI) (List.mem_append_right _ (.head _))))
            · exact hI _ (.tail _ (.tail _ hq))
        case done =>
          rintro ⟨⟨ys2, n2⟩, en2⟩ u2 h tk ⟨ph, pe, pp, po⟩ F2 N2
          dsimp only at ph pe pp po
          have F3 : Fr s.heap L' h (fun y => if y = Str.ofString "heap" then some (.ref a) else if y = Str.ofString "kept" then some (.ref B) else if y = Str.ofString "leads" then some (.ref d) else if y = Str.ofString "steps" then some (.int td _) else u2 y) := F2
          have N3 : News s.heap L' h ((a, listOf (ys2.map (·.1)).toArray n2) :: (B, listOf (strValues (kept ++ [(tp', ut)])).toArray 0) :: en2) := N2
          clear F2 N2
          clear F7 N7
          dsimp only
          k_steps
          show TurnEnd _ _ _ _ _ _ _ _
          have hl1 := pp.length_eq
          rw [strsAre_len hgs, List.take_length] at pp
          have hl2 := hperm.length_eq
          simp only [List.length_cons, List.length_append, List.length_nil, List.length_map, List.length_take] at hl1 hl2
          refine TurnEnd.mk ((ys2, n2), (B, kept ++ [(tp', ut)], 0), en2) F3 N3 (by rw [List.append_nil]; exact fun _ h => h) ⟨rfl, rfl, rfl, trivial⟩ ⟨?_, ph, pe, ?_, Ne.symm haB, fun q hq => (po q hq).1⟩
          · show 5 * (5 - (kept ++ [(tp', ut)]).length) + ys2.length < 5 * (5 - kept.length) + _
            rw [List.concat_eq_append, List.length_append, List.length_append, List.length_singleton, List.length_singleton]
            have m4 : ys2.length ≤ rest.length + 4 := by rw [hl1]; exact Nat.add_le_add_left (Nat.le_trans (Nat.min_le_right _ _) hdeg) _
            have e5 : 5 - kept.length = (5 - (kept.length + 1)) + 1 := by have := hsm3.1; clear hl1 hl2 m4; omega
            rw [e5]
            generalize 5 - (kept.length + 1) = z
            clear e5 hl1 hsm3 hdeg
            omega
          · rw [List.map_append]
            exact V.perm hinv3 pp.symm
end

/-- the walk begins anew -/
theorem anewN1 {M : Model} {A : Around} {E : Value → Shared → Prop} {Q : Value → Shared → Prop} {s : Shared} {env : Env} (h : ∀ v s', Q v s') : wpAny M A (eval (.Constant (.int 0) 0 ⟨0, 0, 0, 0⟩) env) Q E s := by
  w_top off
  first
    | (walk1; exact h _ _)
    | exact wpAny_Constant_int (h _ _)
set_option hygiene false in
local macro_rules | `(tactic| walk_at "call ref") => `(tactic| refine Stop.out ?_)
def pathNames : Nat → Str → List Str → Option (List Str)
  | 0, _, _ => none
  | n + 1, x, acc => if x = Str.ofString "/" then some acc else if x.length ≤ 100 ∧ acc.length ≤ 100 then pathNames n (dirF x) (tailF x :: acc) else none
section
variable {w : World} {mean : ExcName → Option Value} {mg mb : Str → Option Value} {A : Around} {s : Shared} {E : Value → Shared → Prop} {Q : Value → Shared → Prop}
set_option maxHeartbeats 4000000 in
theorem law_names (W : WF w mean mg mb s.heap) {x : Str} {t : Tok} {fuel : Nat} {R : List Str} (hR : pathNames fuel x [] = some R) (hd : A.depth + 24 < recursionLimit) (hu : A.units + 200 < cLine) (hh : A.handled = none)
   (ret : ∀ D acc kn h' tk', acc.map (·.1) = R → Ext s.heap h' → s.heap.get? D = none → h'.get? D = some (listOf (strValues acc).toArray kn) → Q (.ref D) { s with heap := h', toks := tk' }) :
   wpAny (MD w) A (call (.ref 192) [.str x t]) Q E s := by
  obtain ⟨hd0, dp, fr, gd, un⟩ := A
  cases hh
  dsimp only at hd hu
  refine wpAny_call ?_
  k_dflt (refine' enter (as := []) (news := []) (binds := [(Str.ofString "path", .str x t)]) W ?kn ?k6 ?k7 ?k8 ?k9 ?kB ?_ ?c2 ?c3 ?c4 ?c5)
  walk_at "Enter"
  intro g' L' h' F' N' X' T' hg'
  have hg0 : g' = s.heap := hg'
  subst hg0
  try k_fold
  k_steps
  rename Fr _ _ _ _ => F1
  rename News _ _ _ _ => N1
  rename_i D _ _ _
  unfold Stop
  refine while_k (σ := Nat × (Str × Tok) × Addr × List (Str × Tok) × Nat) (fun c => [(c.2.2.1, listOf (strValues c.2.2.2.1).toArray c.2.2.2.2)]) (fun c => [(Str.ofString "path", .str c.2.1.1 c.2.1.2), (Str.ofString "names", .ref c.2.2.1)]) [] (fun c => c.1)
    (fun c => pathNames c.1 c.2.1.1 (c.2.2.2.1.map (·.1)) = some R) (fuel, (x, t), D, [], 0) F1 N1 (fun _ h => h) (And.intro rfl (And.intro rfl trivial)) hR ?turn
  rintro ⟨n, ⟨y, ty⟩, D1, acc, kn⟩ u h tk hp F2 N2
  clear F1 N1
  dsimp only at hp
  have F3 : Fr s.heap L' h (fun z => if z = Str.ofString "path" then some (.str y ty) else if z = Str.ofString "names" then some (.ref D1) else u z) := F2
  clear F2
  have N3 : News s.heap L' h [(D1, listOf (strValues acc).toArray kn)] := N2
  clear N2
  cases n with
  | zero => cases hp
  | succ n =>
    rw [pathNames] at hp
    by_cases hy : y = Str.ofString "/"
    · rw [if_pos hy] at hp
      cases hp
      subst hy
      k_steps
      walk_at "Ends"
      exact ret D1 acc kn _ _ rfl F3.keep (N3 _ (.head _)).2.2 (N3 _ (.head _)).1
    · rw [if_neg hy] at hp
      split at hp
      · rename_i hlen
        obtain ⟨hl1, hl2⟩ := hlen
        rw [List.length_map] at hl2
        k_steps
        · unfold Stop
          rename Fr _ _ _ _ => kF
          rename News _ _ _ _ => kN
          refine' split (wf_of (by assumption) (by assumption) kF) ?kl ?kd ?ku ?kh ?_
          case kl => assumption
          case kd => walk_at "D"
          case ku => walk_at "U"
          case kh => exact rfl
          intro a' v₁' t₁' v₂' t₂' h' tk' hv1' hv2' e' f' g'
          have kF' := frExt kF e'
          have kN' := newsExt kN e'
          have kN' := newsCons kF kN' e' f' g'
          clear kF kN
          subst hv1'
          subst hv2'
          k_steps
          show TurnEnd _ _ _ _ _ _ _ _
          rename Fr _ _ _ _ => F4
          rename News _ _ _ _ => N4
          refine TurnEnd.mk (n, (dirF y, t₁'), _, (tailF y, t₂') :: acc, 0) F4 N4 ?_ ⟨rfl, rfl, trivial⟩ ⟨Nat.lt_succ_self n, hp⟩
          intro p hp'
          rw [List.append_nil] at hp'
          obtain rfl := List.mem_singleton.mp hp'
          exact .head _
        · rename (y != Str.ofString "/") = false => hn
          exact absurd (by simpa using hn) hy
      · cases hp
end

/-- the walk begins anew -/
theorem anewD1 {M : Model} {A : Around} {E : Value → Shared → Prop} {Q : Value → Shared → Prop} {s : Shared} {env : Env} (h : ∀ v s', Q v s') : wpAny M A (eval (.Constant (.int 0) 0 ⟨0, 0, 0, 0⟩) env) Q E s := by
  w_top off
  first
    | (walk1; exact h _ _)
    | exact wpAny_Constant_int (h _ _)
/-- a value is a list of these texts -/
def ListIn (g : Heap) (v : Value) (x : List Str) : Prop := ∃ a vs n, v = .ref a ∧ g.get? a = some (listOf vs.toArray n) ∧ StrsAre vs x
inductive ListsAre (g : Heap) : List Value → List (List Str) → Prop
  | nil : ListsAre g [] []
  | cons {v vs x xs} : ListIn g v x → ListsAre g vs xs → ListsAre g (v :: vs) (x :: xs)
theorem ListIn.ext {g h : Heap} {v : Value} {x : List Str} (H : ListIn g v x) (k : Ext g h) : ListIn h v x := let ⟨a, vs, n, e, ha, hs⟩ := H; ⟨a, vs, n, e, k _ _ ha, hs⟩
theorem ListsAre.ext {g h : Heap} {vs : List Value} {xs : List (List Str)} (H : ListsAre g vs xs) (k : Ext g h) : ListsAre h vs xs := by
  induction H with
  | nil => exact .nil
  | cons h _ ih => exact .cons (h.ext k) ih
theorem ListsAre.length {g : Heap} {vs : List Value} {xs : List (List Str)} (H : ListsAre g vs xs) : vs.length = xs.length := by
  induction H with
  | nil => rfl
  | cons h _ ih => simp [ih]
theorem ListsAre.get {g : Heap} {vs : List Value} {xs : List (List Str)} (H : ListsAre g vs xs) : ∀ {i : Nat} {v : Value}, vs[i]? = some v → ∃ x, xs[i]? = some x ∧ ListIn g v x := by
  induction H with
  | nil => intro i v e; cases e
  | cons h _ ih =>
    intro i v e
    cases i with
    | zero => cases e; exact ⟨_, rfl, h⟩
    | succ i => exact ih e
theorem ListsAre.append {g : Heap} {vs ws : List Value} {xs ys : List (List Str)} (H : ListsAre g vs xs) (K : ListsAre g ws ys) : ListsAre g (vs ++ ws) (xs ++ ys) := by
  induction H with
  | nil => exact K
  | cons h _ ih => exact .cons h ih
theorem ListsAre.mem {g : Heap} {vs : List Value} {xs : List (List Str)} (H : ListsAre g vs xs) {v : Value} (hv : v ∈ vs) : ∃ x, ListIn g v x := by
  obtain ⟨i, hi⟩ := List.getElem?_of_mem hv
  obtain ⟨x, _, h⟩ := H.get hi
  exact ⟨x, h⟩
theorem strsAre_inj {vs : List Value} {x y : List Str} (h : StrsAre vs x) (k : StrsAre vs y) : x = y := by
  induction h generalizing y with
  | nil => cases k; rfl
  | cons n t _ ih => cases k with | cons _ _ k => rw [ih k]
theorem ListIn.inj {g : Heap} {v : Value} {x y : List Str} (h : ListIn g v x) (k : ListIn g v y) : x = y := by
  obtain ⟨a, vs, n, rfl, ha, hs⟩ := h
  obtain ⟨a', vs', n', e, ha', hs'⟩ := k
  cases e
  rw [ha] at ha'
  have e2 : vs = vs' := by
    have := congrArg (fun o => o.map Obj.data) ha'
    simp only [Option.map_some, Option.some.injEq, Data.seq.injEq] at this
    have h2 := congrArg Array.toList this.1
    simpa using h2
  subst e2
  exact strsAre_inj hs hs'
theorem range_all_eq {α : Type} [BEq α] [LawfulBEq α] : ∀ (x y : List α), x.length = y.length → (List.range x.length).all (fun j => x[j]? == y[j]?) = (x == y) := by
  intro x y h
  cases hb : (x == y) with
  | true => have := eq_of_beq hb; subst this; simp
  | false =>
    have hne := ne_of_beq_false hb
    cases hq : (List.range x.length).all (fun j => x[j]? == y[j]?) with
    | false => rfl
    | true =>
      exfalso
      apply hne
      apply List.ext_getElem? 
      intro j
      by_cases hj : j < x.length
      · have := List.all_eq_true.mp hq j (List.mem_range.mpr hj)
        exact eq_of_beq this
      · rw [List.getElem?_eq_none (by omega), List.getElem?_eq_none (by omega)]
theorem eqAt_lists {A : Around} {s : Shared} {v w : Value} {x y : List Str} (h : ListIn s.heap v x) (k : ListIn s.heap w y) (hu : A.units < cLine) : SeqAt.EqAt A s v w (x == y) := by
  obtain ⟨a, vs, n, rfl, ha, hs⟩ := id h
  obtain ⟨b, ws, m, rfl, hb, ht⟩ := id k
  by_cases hab : a = b
  · subst hab
    rw [ListIn.inj h k, beq_self_eq_true]
    exact SeqAt.EqAt.same _
  · have hl : s.heap.IsList a vs.toArray := ⟨_, ha, rfl, n, rfl⟩
    have hm : s.heap.IsList b ws.toArray := ⟨_, hb, rfl, m, rfl⟩
    by_cases hlen : x.length = y.length
    · rw [← range_all_eq x y hlen]
      have hvl := strsAre_len hs
      have hwl := strsAre_len ht
      have e := SeqAt.RcAt.lists (A := A) (e := fun j => x[j]? == y[j]?) hl hm (by simp [hvl, hwl, hlen]) hu (fun j h1 h2 => by
        have h1' : j < vs.length := by simpa using h1
        have h2' : j < ws.length := by simpa using h2
        obtain ⟨p, tp, ep, hp⟩ := strsAre_get hs (List.getElem?_eq_getElem h1')
        obtain ⟨q, tq, eq, hq⟩ := strsAre_get ht (List.getElem?_eq_getElem h2')
        have e1 : vs.toArray[j] = Value.str p tp := by simpa using ep
        have e2 : ws.toArray[j] = Value.str q tq := by simpa using eq
        rw [e1, e2, hp, hq]
        exact (eqGives_str p q tp tq).at _ _)
      have e3 : vs.toArray.size = x.length := by simp [hvl]
      rw [e3] at e
      exact SeqAt.EqAt.of_refs hab e
    · have hf : (x == y) = false := by
        cases hb : (x == y) with
        | false => rfl
        | true => exact absurd (congrArg List.length (eq_of_beq hb)) hlen
      rw [hf]
      refine SeqAt.EqAt.of_refs hab (SeqAt.RcAt.lists_lengths hl hm ?_ hu)
      have hvl := strsAre_len hs
      have hwl := strsAre_len ht
      simp only [List.size_toArray, bne_iff_ne, ne_eq]
      omega
noncomputable def isL (g : Heap) (x : List Str) (v : Value) : Bool := @decide (ListIn g v x) (Classical.propDecidable _)
theorem isL_of {g : Heap} {v : Value} {x y : List Str} (h : ListIn g v x) : isL g y v = (x == y) := by
  unfold isL
  cases hb : (x == y) with
  | true => have := eq_of_beq hb; subst this; exact @decide_eq_true _ (Classical.propDecidable _) h
  | false => exact @decide_eq_false _ (Classical.propDecidable _) fun k => ne_of_beq_false hb (ListIn.inj h k)
theorem any_isL {g : Heap} {y : List Str} {vs : List Value} {xs : List (List Str)} (H : ListsAre g vs xs) : vs.any (isL g y) = xs.any (· == y) := by
  induction H with
  | nil => rfl
  | cons h _ ih => rw [List.any_cons, List.any_cons, isL_of h, ih]
theorem notIn_lists {prog : Program} {w : World} {A : Around} {E : Value → Shared → Prop} {s : Shared} {D : Addr} {vs : List Value} {xs : List (List Str)} {v : Value} {y : List Str} {Q : Value → Shared → Prop} (hl : s.heap.IsList D vs.toArray) (H : ListsAre s.heap vs xs) (hv : ListIn s.heap v y) (hu : A.units + 1 < cLine)
    (h : Q (.bool (!xs.any (· == y))) s) : wpAny (model prog w) A (compareOp .NotIn v (.ref D)) Q E s :=
  SeqAt.notIn_listAt (isL s.heap y) hl (fun z hz => by
    obtain ⟨x, hx⟩ := H.mem (by simpa using hz)
    rw [isL_of hx]
    exact eqAt_lists hx hv hu) (by rw [← Array.any_toList, show vs.toArray.toList = vs from rfl, any_isL H]; exact h)
def dedupF (xs : List (List Str)) : List (List Str) := xs.foldl (fun acc x => if acc.any (· == x) then acc else acc ++ [x]) []
theorem dedupF_snoc (xs : List (List Str)) (x : List Str) : dedupF (xs ++ [x]) = if (dedupF xs).any (· == x) then dedupF xs else dedupF xs ++ [x] := by
  unfold dedupF; rw [List.foldl_append]; rfl
local macro_rules | `(tactic| walk_at "compareOp NotIn ref ref") => `(tactic| (k_here; (with_reducible show wpAny _ _ (compareOp CmpOp.NotIn (Value.ref _) (Value.ref _)) _ _ _); k_dflt (refine' notIn_lists ?x ?y ?v ?u ?_; (case x => walk_at "I"); (case y => exact ListsAre.ext (by assumption) (Fr.keep (by assumption))); (case v => exact ListIn.ext (by assumption) (Fr.keep (by assumption))); (case u => walk_at "U"); k_whole)))
section
variable {w : World} {mean : ExcName → Option Value} {mg mb : Str → Option Value} {A : Around} {s : Shared} {E : Value → Shared → Prop} {Q : Value → Shared → Prop}
set_option maxHeartbeats 4000000 in
theorem dedup (W : WF w mean mg mb s.heap) {l : Addr} {vs : List Value} {nn : Nat} {xs : List (List Str)} (hl : s.heap.get? l = some (listOf vs.toArray nn)) (H : ListsAre s.heap vs xs) (hsz : xs.length ≤ 1000) (hd : A.depth + 24 < recursionLimit) (hu : A.units + 200 < cLine) (hh : A.handled = none)
   (ret : ∀ D ws kn h' tk', (∀ g, ListsAre g vs xs → ListsAre g ws (dedupF xs)) → Ext s.heap h' → s.heap.get? D = none → h'.get? D = some (listOf ws.toArray kn) → Q (.ref D) { s with heap := h', toks := tk' }) :
   wpAny (MD w) A (call (.ref 178) [.ref l]) Q E s := by
  obtain ⟨hd0, dp, fr, gd, un⟩ := A
  cases hh
  dsimp only at hd hu
  refine wpAny_call ?_
  k_dflt (refine' enter (as := []) (news := []) (binds := [(Str.ofString "unhashable_params", .ref l)]) W ?kn ?k6 ?k7 ?k8 ?k9 ?kB ?_ ?c2 ?c3 ?c4 ?c5)
  walk_at "Enter"
  intro g' L' h' F' N' X' T' hg'
  have hg0 : g' = s.heap := hg'
  subst hg0
  try k_fold
  k_steps
  rename Fr _ _ _ _ => F1
  rename News _ _ _ _ => N1
  rename_i D _ _ _
  unfold Stop
  with_unfolding_all refine For_invVF F1 (by rfl) (by rfl) ?_
  walk1
  refine for_k (σ := List Value × Nat) (vs := vs) (nn := nn) (fun c => [(D, listOf c.1.toArray c.2)]) (fun _ => []) [Str.ofString "new_unhashable"] (fun i c => (∀ g, ListsAre g vs xs → ListsAre g c.1 (dedupF (xs.take i))) ∧ c.1.length ≤ i) ([], 0) rfl (F1.keep _ _ hl) F1 N1 (fun _ h => h) trivial ⟨fun _ _ => .nil, Nat.le_refl _⟩ (fun c h m F _ => F.keep _ _ hl) ?turn ?done
  case turn =>
    rintro i v ⟨ws, n⟩ u I oI h tk hv ⟨hPP, hlw⟩ hI F2 N2
    clear F1 N1
    dsimp only at hPP hlw
    have hP := hPP _ H
    obtain ⟨x, hx, hvx⟩ := H.get hv
    obtain ⟨b, bvs, bn, rfl, hb, hbs⟩ := id hvx
    have hi : i < xs.length := (List.getElem?_eq_some_iff.mp hx).1
    have hDI := neN (a := D) (b := I) (hI _ (.head _))
    have F3 : Fr s.heap L' h (fun y => if y = Str.ofString "t" then some (.ref b) else if y = Str.ofString "new_unhashable" then some (.ref D) else u y) := F2
    have N3 : News s.heap L' h [(D, listOf ws.toArray n), (I, oI)] := N2
    clear F2 N2
    have htake : xs.take (i + 1) = xs.take i ++ [x] := by rw [List.take_add_one, hx]; rfl
    k_steps
    · show TurnEnd _ _ _ _ _ _ _ _
      rename_i hb
      refine TurnEnd.mk (ws, n) (by assumption) (by assumption) (fun z m => m) ⟨rfl, trivial⟩ ⟨⟨?_, by dsimp only; omega⟩, ?_⟩
      · rw [htake, dedupF_snoc, if_pos hb]
        exact hPP
      · intro p hp
        cases hp with
        | head => exact hDI
        | tail _ h => cases h
    · show TurnEnd _ _ _ _ _ _ _ _
      refine TurnEnd.mk (ws ++ [.ref b], n + 1) (by assumption) (by assumption) (fun z m => m) ⟨rfl, trivial⟩ ⟨⟨?_, by simp only [List.length_append, List.length_cons, List.length_nil]; omega⟩, ?_⟩
      · rw [htake, dedupF_snoc, if_neg (by simp only [*]; decide)]
        intro g Hg
        obtain ⟨x', hx', hg⟩ := Hg.get hv
        rw [hx] at hx'
        cases hx'
        exact ListsAre.append (hPP g Hg) (.cons hg .nil)
      · intro p hp
        cases hp with
        | head => exact hDI
        | tail _ h => cases h
  case done =>
    rintro ⟨ws, n⟩ u h tk ⟨hP, hlw⟩ F2 N2
    clear F1 N1
    have F3 : Fr s.heap L' h (fun y => if y = Str.ofString "new_unhashable" then some (.ref D) else u y) := F2
    have N3 : News s.heap L' h [(D, listOf ws.toArray n)] := N2
    clear F2 N2
    dsimp only
    k_steps
    walk_at "Ends"
    rw [H.length, List.take_length] at hP
    exact ret D ws n _ _ hP F3.keep (N3 _ (.head _)).2.2 (N3 _ (.head _)).1
end

end
section
/-- the walk begins anew -/
theorem anewG1 {M : Model} {A : Around} {E : Value → Shared → Prop} {Q : Value → Shared → Prop} {s : Shared} {env : Env} (h : ∀ v s', Q v s') : wpAny M A (eval (.Constant (.int 0) 0 ⟨0, 0, 0, 0⟩) env) Q E s := by
  w_top off
  first
    | (walk1; exact h _ _)
    | exact wpAny_Constant_int (h _ _)
local macro_rules | `(tactic| walk_at "exec For Name Call cons nil") => `(tactic| refine Stop.out ?_)
local macro_rules | `(tactic| walk_at "subscriptTail Name Slice ref ref") => `(tactic| (k_here; (with_reducible show wpAny _ _ (subscriptTail _ (PySem.Expr.Slice none (some _) none _) (Value.ref _) (Value.ref _)) _ _ _); k_dflt (refine' slice_init ?F ?N ?l ?_ ?s ?t ?z; (case F => k_asm); (case N => k_asm); (case l => first | exact isl (by assumption) (by k_mem) | exact ⟨_, Fr.keep (by assumption) _ _ (by assumption), rfl, _, rfl⟩); (case s => with_unfolding_all rfl); (case t => kmk_pure); (case z => first | omega | (simp only [List.length_map]; omega)); k_whole); intro D' h' F' N' l1; (try k_lt l1)))
local macro_rules | `(tactic| walk_at "compareOp In str ref") => `(tactic| (k_here; (with_reducible show wpAny _ _ (compareOp CmpOp.In (Value.str _ _) (Value.ref _)) _ _ _); k_dflt (refine' in_strs (xs := [Str.ofString "", Str.ofString "."]) ?x ?y ?_; (case x => exact ⟨_, News.get (by assumption) (by k_mem), rfl, _, rfl⟩); (case y => exact StrsAre.cons _ _ (StrsAre.cons _ _ StrsAre.nil)); k_whole)))
local macro_rules | `(tactic| walk_at "binaryOp Add ref ref") => `(tactic| (k_here; (with_reducible show wpAny _ _ (binaryOp _ (Value.ref _) (Value.ref _)) _ _ _); k_dflt (refine' add_any ?F ?N ?x ?y ?z ?_; (case F => k_asm); (case N => k_asm); (case x => walk_at "I"); (case y => exact isl (vs := [_]) (by assumption) (by k_mem)); (case z => (simp only [List.length_cons, List.length_nil]; omega)); k_whole); intro D' h' F' N' l1; (try k_lt l1)))
def startF (xs : List Str) (x : Str) : List Str := if (Txt.slice x none (some 1) == Str.ofString "/") = true then [] else xs.dropLast
def goalStep (w : List Str) (name : Str) : List Str := if (name == Str.ofString "..") = true then w.dropLast else if ([Str.ofString "", Str.ofString "."].any (· == name)) = true then w else w ++ [name]
def goalF (xs : List Str) (x : Str) : List Str := (Txt.split x (Str.ofString "/")).foldl goalStep (startF xs x)
theorem StrsAre.init {vs : List Value} {xs : List Str} (h : StrsAre vs xs) : StrsAre vs.dropLast xs.dropLast := by
  induction h with
  | nil => exact .nil
  | cons n t k ih => cases k with
    | nil => exact .nil
    | cons n' t' k' => exact .cons n t ih
theorem StrsAre.snoc {vs : List Value} {xs : List Str} (h : StrsAre vs xs) (n : Str) (t : Tok) : StrsAre (vs ++ [.str n t]) (xs ++ [n]) := by
  induction h with
  | nil => exact .cons _ _ .nil
  | cons n t _ ih => exact .cons _ _ ih
section
variable {w : World} {mean : ExcName → Option Value} {mg mb : Str → Option Value} {A : Around} {s : Shared} {E : Value → Shared → Prop} {Q : Value → Shared → Prop}
set_option maxHeartbeats 4000000 in
theorem law_goal (W : WF w mean mg mb s.heap) {l : Addr} {vs : List Value} {nn : Nat} {xs : List Str} {x : Str} {t : Tok} (hl : s.heap.get? l = some (listOf vs.toArray nn)) (H : StrsAre vs xs) (hsz : vs.length ≤ 1000) (hx : x.length ≤ 1000) (hc : (Txt.split x (Str.ofString "/")).length ≤ 100) (hd : A.depth + 24 < recursionLimit) (hu : A.units + 200 < cLine) (hh : A.handled = none)
   (ret : ∀ D (ws : List Value) kn h' tk', StrsAre ws (goalF xs x) → Ext s.heap h' → s.heap.get? D = none → h'.get? D = some (listOf ws.toArray kn) → Q (.ref D) { s with heap := h', toks := tk' }) :
   wpAny (MD w) A (call (.ref 206) [.ref l, .str x t]) Q E s := by
  obtain ⟨hd0, dp, fr, gd, un⟩ := A
  cases hh
  dsimp only at hd hu
  refine wpAny_call ?_
  k_dflt (refine' enter (as := []) (news := []) (binds := [(Str.ofString "page", .ref l), (Str.ofString "link", .str x t)]) W ?kn ?k6 ?k7 ?k8 ?k9 ?kB ?_ ?c2 ?c3 ?c4 ?c5)
  walk_at "Enter"
  intro g' L' h' F' N' X' T' hg'
  have hg0 : g' = s.heap := hg'
  subst hg0
  try k_fold
  k_steps
  · rename Fr _ _ _ _ => F1
    rename News _ _ _ _ => N1'
    rename_i hst D _ _ _
    obtain ⟨ws, hws, hwl, N1⟩ : ∃ ws : List Value, StrsAre ws (startF xs x) ∧ ws.length ≤ 1000 ∧ News s.heap L' _ [(D, listOf ws.toArray 0)] := ⟨[], by rw [startF, if_pos hst]; exact .nil, Nat.zero_le _, N1'⟩
    clear N1'
    unfold Stop
    with_unfolding_all refine For_invVF F1 (by rfl) (by rfl) ?_
    k_steps
    rename Fr _ _ _ _ => F1
    rename News _ _ _ _ => N1
    rename_i lst _ _ hlst hA hle hIs
    refine for_k (σ := Addr × List Value × Nat) (vs := strValues lst) (nn := 0) (fun c => [(c.1, listOf c.2.1.toArray c.2.2), (_, listOf (strValues lst).toArray 0)]) (fun c => [(Str.ofString "way", .ref c.1)]) [] (fun i c => StrsAre c.2.1 ((((lst.map (·.1))).take i).foldl goalStep (startF xs x)) ∧ c.2.1.length ≤ 1000 + i) (D, ws, 0) rfl (N1 _ (.head _)).1 F1 N1 ?sub (And.intro rfl trivial) ⟨hws, hwl⟩ (fun c h m F N => (N _ (.tail _ (.head _))).1) ?turn ?done
    case sub =>
      intro p hp
      rcases List.mem_cons.mp hp with rfl | hp
      · exact .tail _ (.head _)
      · rw [List.mem_singleton.mp hp]; exact .head _
    case turn =>
      rintro i v ⟨D1, ws1, n1⟩ u I oI h tk hv ⟨hP, hlw⟩ hI F2 N2
      clear F1 N1
      dsimp only at hP hlw
      obtain ⟨nm, tn, rfl, hnm⟩ := strsAre_get hA hv
      have F3 : Fr s.heap L' h (fun y => if y = Str.ofString "name" then some (.str nm tn) else if y = Str.ofString "way" then some (.ref D1) else u y) := F2
      clear F2
      dsimp only at N2
      have hil : i < lst.length := by
        have := (List.getElem?_eq_some_iff.mp hnm).1
        rwa [List.length_map] at this
      have hlc : lst.length ≤ 100 := by rw [← List.length_map (f := fun x : Str × Tok => x.1), hlst]; exact hc
      have hna : nm.length ≤ 1000 := Nat.le_trans (hle nm (List.mem_of_getElem? hnm)) hx
      have htake : ((lst.map (·.1)).take (i + 1)).foldl goalStep (startF xs x) = goalStep (((lst.map (·.1)).take i).foldl goalStep (startF xs x)) nm := by rw [List.take_add_one, hnm, List.foldl_append]; rfl
      have hD1 : D1 ≠ I := neN (hI _ (.head _))
      k_steps
      · show TurnEnd _ _ _ _ _ _ _ _
        rename_i hc1 D2 _ hlt _ _ _
        refine TurnEnd.mk (D2, ws1.dropLast, 0) (by assumption) (by assumption) ?_ ⟨rfl, trivial⟩ ⟨⟨?_, ?_⟩, ?_⟩
        · intro p hp
          rcases List.mem_cons.mp hp with rfl | hp
          · exact .head _
          · exact .tail _ (.tail _ hp)
        · rw [htake, goalStep, if_pos hc1]
          exact StrsAre.init hP
        · dsimp only
          rw [List.length_dropLast]
          omega
        · intro p hp
          rcases List.mem_cons.mp hp with rfl | hp
          · exact neN (Nat.ne_of_gt (hlt (I, oI) (List.mem_append_right _ (.head _))))
          · exact hI p (.tail _ hp)
      · show TurnEnd _ _ _ _ _ _ _ _
        refine TurnEnd.mk (D1, ws1, n1) (by assumption) (by assumption) ?_ ⟨rfl, trivial⟩ ⟨⟨?_, ?_⟩, hI⟩
        · intro p hp
          exact .tail _ hp
        · rw [htake, goalStep, if_neg (by rw [(by assumption : (nm == Str.ofString "..") = false)]; decide), if_pos (by assumption)]
          exact hP
        · dsimp only
          omega
      · show TurnEnd _ _ _ _ _ _ _ _
        rename_i D2 _ hlt _ _ _
        refine TurnEnd.mk (D2, ws1 ++ [.str nm tn], 0) (by assumption) (by assumption) ?_ ⟨rfl, trivial⟩ ⟨⟨?_, ?_⟩, ?_⟩
        · intro p hp
          rcases List.mem_cons.mp hp with rfl | hp
          · exact .head _
          · exact .tail _ (.tail _ (.tail _ (.tail _ hp)))
        · rw [htake, goalStep, if_neg (by rw [(by assumption : (nm == Str.ofString "..") = false)]; decide), if_neg (by rw [(by assumption : ([Str.ofString "", Str.ofString "."].any fun x => x == nm) = false)]; decide)]
          exact StrsAre.snoc hP _ _
        · dsimp only
          rw [List.length_append, List.length_singleton]
          omega
        · intro p hp
          rcases List.mem_cons.mp hp with rfl | hp
          · exact neN (Nat.ne_of_gt (lt_of_all hlt.2.2 (I, oI) (List.mem_append_right _ (.head _))))
          · exact hI p (.tail _ hp)
    case done =>
      rintro ⟨D1, ws1, n1⟩ u h tk ⟨hP, hlw⟩ F2 N2
      clear F1 N1
      dsimp only at hP hlw N2
      have F3 : Fr s.heap L' h (fun y => if y = Str.ofString "way" then some (.ref D1) else u y) := F2
      clear F2
      k_steps
      walk_at "Ends"
      have hlen : (strValues lst).length = (lst.map (·.1)).length := strsAre_len hA
      rw [hlen, List.take_length, hlst] at hP
      exact ret D1 ws1 n1 _ _ hP F3.keep (N2 _ (.head _)).2.2 (N2 _ (.head _)).1
  · rename Fr _ _ _ _ => F1
    rename News _ _ _ _ => N1'
    rename_i hst D _ _ _
    obtain ⟨ws, hws, hwl, N1⟩ : ∃ ws : List Value, StrsAre ws (startF xs x) ∧ ws.length ≤ 1000 ∧ News s.heap L' _ [(D, listOf ws.toArray 0)] := ⟨_, by rw [startF, if_neg (by rw [hst]; decide)]; exact StrsAre.init H, by rw [List.length_dropLast]; omega, N1'⟩
    clear N1'
    unfold Stop
    with_unfolding_all refine For_invVF F1 (by rfl) (by rfl) ?_
    k_steps
    rename Fr _ _ _ _ => F1
    rename News _ _ _ _ => N1
    rename_i lst _ _ hlst hA hle hIs
    refine for_k (σ := Addr × List Value × Nat) (vs := strValues lst) (nn := 0) (fun c => [(c.1, listOf c.2.1.toArray c.2.2), (_, listOf (strValues lst).toArray 0)]) (fun c => [(Str.ofString "way", .ref c.1)]) [] (fun i c => StrsAre c.2.1 ((((lst.map (·.1))).take i).foldl goalStep (startF xs x)) ∧ c.2.1.length ≤ 1000 + i) (D, ws, 0) rfl (N1 _ (.head _)).1 F1 N1 ?sub (And.intro rfl trivial) ⟨hws, hwl⟩ (fun c h m F N => (N _ (.tail _ (.head _))).1) ?turn ?done
    case sub =>
      intro p hp
      rcases List.mem_cons.mp hp with rfl | hp
      · exact .tail _ (.head _)
      · rw [List.mem_singleton.mp hp]; exact .head _
    case turn =>
      rintro i v ⟨D1, ws1, n1⟩ u I oI h tk hv ⟨hP, hlw⟩ hI F2 N2
      clear F1 N1
      dsimp only at hP hlw
      obtain ⟨nm, tn, rfl, hnm⟩ := strsAre_get hA hv
      have F3 : Fr s.heap L' h (fun y => if y = Str.ofString "name" then some (.str nm tn) else if y = Str.ofString "way" then some (.ref D1) else u y) := F2
      clear F2
      dsimp only at N2
      have hil : i < lst.length := by
        have := (List.getElem?_eq_some_iff.mp hnm).1
        rwa [List.length_map] at this
      have hlc : lst.length ≤ 100 := by rw [← List.length_map (f := fun x : Str × Tok => x.1), hlst]; exact hc
      have hna : nm.length ≤ 1000 := Nat.le_trans (hle nm (List.mem_of_getElem? hnm)) hx
      have htake : ((lst.map (·.1)).take (i + 1)).foldl goalStep (startF xs x) = goalStep (((lst.map (·.1)).take i).foldl goalStep (startF xs x)) nm := by rw [List.take_add_one, hnm, List.foldl_append]; rfl
      have hD1 : D1 ≠ I := neN (hI _ (.head _))
      k_steps
      · show TurnEnd _ _ _ _ _ _ _ _
        rename_i hc1 D2 _ hlt _ _ _
        refine TurnEnd.mk (D2, ws1.dropLast, 0) (by assumption) (by assumption) ?_ ⟨rfl, trivial⟩ ⟨⟨?_, ?_⟩, ?_⟩
        · intro p hp
          rcases List.mem_cons.mp hp with rfl | hp
          · exact .head _
          · exact .tail _ (.tail _ hp)
        · rw [htake, goalStep, if_pos hc1]
          exact StrsAre.init hP
        · dsimp only
          rw [List.length_dropLast]
          omega
        · intro p hp
          rcases List.mem_cons.mp hp with rfl | hp
          · exact neN (Nat.ne_of_gt (hlt (I, oI) (List.mem_append_right _ (.head _))))
          · exact hI p (.tail _ hp)
      · show TurnEnd _ _ _ _ _ _ _ _
        refine TurnEnd.mk (D1, ws1, n1) (by assumption) (by assumption) ?_ ⟨rfl, trivial⟩ ⟨⟨?_, ?_⟩, hI⟩
        · intro p hp
          exact .tail _ hp
        · rw [htake, goalStep, if_neg (by rw [(by assumption : (nm == Str.ofString "..") = false)]; decide), if_pos (by assumption)]
          exact hP
        · dsimp only
          omega
      · show TurnEnd _ _ _ _ _ _ _ _
        rename_i D2 _ hlt _ _ _
        refine TurnEnd.mk (D2, ws1 ++ [.str nm tn], 0) (by assumption) (by assumption) ?_ ⟨rfl, trivial⟩ ⟨⟨?_, ?_⟩, ?_⟩
        · intro p hp
          rcases List.mem_cons.mp hp with rfl | hp
          · exact .head _
          · exact .tail _ (.tail _ (.tail _ (.tail _ hp)))
        · rw [htake, goalStep, if_neg (by rw [(by assumption : (nm == Str.ofString "..") = false)]; decide), if_neg (by rw [(by assumption : ([Str.ofString "", Str.ofString "."].any fun x => x == nm) = false)]; decide)]
          exact StrsAre.snoc hP _ _
        · dsimp only
          rw [List.length_append, List.length_singleton]
          omega
        · intro p hp
          rcases List.mem_cons.mp hp with rfl | hp
          · exact neN (Nat.ne_of_gt (lt_of_all hlt.2.2 (I, oI) (List.mem_append_right _ (.head _))))
          · exact hI p (.tail _ hp)
    case done =>
      rintro ⟨D1, ws1, n1⟩ u h tk ⟨hP, hlw⟩ F2 N2
      clear F1 N1
      dsimp only at hP hlw N2
      have F3 : Fr s.heap L' h (fun y => if y = Str.ofString "way" then some (.ref D1) else u y) := F2
      clear F2
      k_steps
      walk_at "Ends"
      have hlen : (strValues lst).length = (lst.map (·.1)).length := strsAre_len hA
      rw [hlen, List.take_length, hlst] at hP
      exact ret D1 ws1 n1 _ _ hP F3.keep (N2 _ (.head _)).2.2 (N2 _ (.head _)).1
end

end
section
/-- the walk begins anew -/
theorem anewQ1 {M : Model} {A : Around} {E : Value → Shared → Prop} {Q : Value → Shared → Prop} {s : Shared} {env : Env} (h : ∀ v s', Q v s') : wpAny M A (eval (.Constant (.int 0) 0 ⟨0, 0, 0, 0⟩) env) Q E s := by
  w_top off
  first
    | (walk1; exact h _ _)
    | exact wpAny_Constant_int (h _ _)
/-- an iterator, as a comprehension's clause draws from it -/
structure Drw (prog : Program) (w : World) (A : Around) (target : Expr) (I : Addr) (fp wr : List Addr) (n : Nat) (PI : Nat → Value → List (Addr × Obj) → Prop) (St : Nat → Heap → Prop) : Prop where
  frame : ∀ i h h', St i h → (∀ b ∈ fp, ∀ o, h.get? b = some o → h'.get? b = some o) → St i h'
  live : ∀ i h, St i h → ∀ b ∈ wr, ∃ o, h.get? b = some o
  step : ∀ i (s : Shared) (Q : Value → Shared → Prop) (E : Value → Shared → Prop), i < n → St i s.heap →
    (∀ v tu h' tk, PI i v tu → St (i + 1) h' → (∀ p ∈ tu, h'.get? p.1 = some p.2 ∧ s.heap.get? p.1 = none) → (∀ b o, b ∉ wr → s.heap.get? b = some o → h'.get? b = some o) → Q v { s with heap := h', toks := tk }) →
    wpAny (model prog w) A (pyNext (.ref I)) (fun r s₁ => match r with | none => False | some v => wpAny (model prog w) A (letOwnedTupleGo target (.ref I) v) (fun _ s₂ => Q v s₂) E s₁) E s
  done : ∀ (s : Shared) (Q : Option Value → Shared → Prop) (E : Value → Shared → Prop), St n s.heap →
    (∀ h' tk, (∀ b o, b ∉ wr → s.heap.get? b = some o → h'.get? b = some o) → Q none { s with heap := h', toks := tk }) → wpAny (model prog w) A (pyNext (.ref I)) Q E s
  self : ∀ i (s : Shared) (Q : Value → Shared → Prop) (E : Value → Shared → Prop), St i s.heap → Q (.ref I) s → wpAny (model prog w) A (pyIter (.ref I)) Q E s

section
variable {prog : Program} {w : World} {A : Around} {E : Value → Shared → Prop} {R : Result → Shared → Prop} {s : Shared}
theorem Drw.of {target : Expr} {I : Addr} {fp wr : List Addr} {n : Nat} {P : Nat → Value → Prop} {St : Nat → Heap → Prop} (W : Walks prog w A I fp wr n P St) (live : ∀ i h, St i h → ∀ b ∈ wr, ∃ o, h.get? b = some o)
    (ht : ∀ v, letOwnedTupleGo target (.ref I) v = pure ()) : Drw prog w A target I fp wr n (fun i v tu => P i v ∧ tu = []) St where
  frame := W.frame
  live := live
  step := fun i s Q E hi st k => W.item i s _ E hi st fun v h' tk hP st' hk => wpAny_of_eq (ht v) (k v [] h' tk ⟨hP, rfl⟩ st' (fun _ h => nomatch h) hk)
  done := W.done
  self := W.self

theorem compLoop_own {elt target iter : Expr} {ifs : List Expr} {scope : Scope} {pos : Pos} {it acc : Value} {env : Env} (I : Nat → Shared → Prop)
    (turn : ∀ n s, I n s → wpAny (model prog w) A (pyNext it) (fun r s₁ => match r with
      | none => R (.ok .next) s₁
      | some v => wpAny (model prog w) A (letOwnedTupleGo target it v) (fun _ s₁' => wpAny (model prog w) A (assign target env v) (fun _ s₂ =>
          wpAny (model prog w) A (forIn ifs true fun c r => if r = true then do let ok ← isTrue c env (eval c env); pure (ForInStep.yield ok) else pure (ForInStep.yield r)) (fun ok s₃ =>
            if ok = true then wpAny (model prog w) A (eval elt env) (fun x s₄ =>
              wpAny (model prog w) A (call (.builtin "list.append") [acc, x]) (fun _ s₅ => ∃ m, m < n ∧ I m s₅) (notedBy (model prog w) A env fun e s' => R (.error e) s') s₄) (notedBy (model prog w) A env fun e s' => R (.error e) s') s₃
            else ∃ m, m < n ∧ I m s₃) (notedBy (model prog w) A env fun e s' => R (.error e) s') s₂) (notedBy (model prog w) A env fun e s' => R (.error e) s') s₁') (notedBy (model prog w) A env fun e s' => R (.error e) s') s₁) (notedBy (model prog w) A env fun e s' => R (.error e) s') s)
    (n : Nat) (h : I n s) : codeAny (model prog w) A (.compLoop (.ListComp elt [⟨target, iter, ifs, 0⟩] scope pos) 0 it acc env) R s := by
  refine codeAny_loop rfl I (fun n s hI => ?_) n h
  show wpAny _ A ((compTurn (.ListComp elt [⟨target, iter, ifs, 0⟩] scope pos) 0 it acc env).onRaise (fun x => do noteFrame x env; theTreesLotGoes x)) _ _ s
  refine wpAny_noted ?_
  rw [compTurn_list]
  refine wpAny_bind (wpAny_standAt (wpAny_bind (wpAny_mono (turn n s hI) (fun r s₁ h₁ => ?_) fun _ _ h' => h')))
  cases r with
  | none => exact wpAny_pure h₁
  | some v =>
    refine wpAny_bind (wpAny_mono h₁ (fun _ s₁' h₁' => ?_) fun _ _ h' => h')
    refine wpAny_bind (wpAny_mono h₁' (fun _ s₂ h₂ => wpAny_bind (wpAny_mono h₂ (fun ok s₃ h₃ => ?_) fun _ _ h' => h')) fun _ _ h' => h')
    cases ok with
    | false => exact wpAny_pure ⟨rfl, h₃⟩
    | true => exact wpAny_bind (wpAny_bind (wpAny_mono h₃ (fun x s₄ h₄ => wpAny_bind (wpAny_mono h₄ (fun _ s₅ h₅ => wpAny_pure (wpAny_pure ⟨rfl, h₅⟩)) fun _ _ h' => h')) fun _ _ h' => h'))

theorem Drw.step' {target : Expr} {I : Addr} {fp wr : List Addr} {n : Nat} {PI : Nat → Value → List (Addr × Obj) → Prop} {St : Nat → Heap → Prop} (T : Drw prog w A target I fp wr n PI St) {i : Nat} {q : Value → Shared → Prop} {nn : Shared → Prop} (hi : i < n) (st : St i s.heap)
    (k : ∀ v tu h' tk, PI i v tu → St (i + 1) h' → (∀ p ∈ tu, h'.get? p.1 = some p.2 ∧ s.heap.get? p.1 = none) → (∀ b o, b ∉ wr → s.heap.get? b = some o → h'.get? b = some o) → q v { s with heap := h', toks := tk }) :
    wpAny (model prog w) A (pyNext (.ref I)) (fun r s₁ => match r with | none => nn s₁ | some v => wpAny (model prog w) A (letOwnedTupleGo target (.ref I) v) (fun _ s₂ => q v s₂) E s₁) E s :=
  wpAny_mono (T.step i s q E hi st k) (fun r s₁ h₁ => by
    cases r with
    | none => exact h₁.elim
    | some v => exact h₁) fun _ _ e => e

def objsAt (h : Heap) (l : List Addr) : List (Addr × Obj) := l.filterMap fun b => (h.get? b).map fun o => (b, o)
theorem mem_objsAt {h : Heap} {l : List Addr} {p : Addr × Obj} : p ∈ objsAt h l ↔ p.1 ∈ l ∧ h.get? p.1 = some p.2 := by
  obtain ⟨b, o⟩ := p
  simp only [objsAt, List.mem_filterMap, Option.map_eq_some_iff, Prod.mk.injEq]
  constructor
  · rintro ⟨c, hc, o', ho, rfl, rfl⟩; exact ⟨hc, ho⟩
  · rintro ⟨hb, ho⟩; exact ⟨b, hb, o, ho, rfl, rfl⟩
theorem objsAt_map {h : Heap} : ∀ {l : List Addr}, (∀ b ∈ l, ∃ o, h.get? b = some o) → (objsAt h l).map (·.1) = l
  | [], _ => rfl
  | b :: r, k => by
    obtain ⟨o, ho⟩ := k b (.head _)
    have ih := objsAt_map (h := h) (l := r) fun c hc => k c (.tail _ hc)
    unfold objsAt at ih ⊢
    rw [List.filterMap_cons, ho]
    simp only [Option.map_some, List.map_cons, ih]

def CellsAt (ca : List Addr) (cs : List (Addr × Obj)) : Prop := cs.map (·.1) = ca ∧ ∀ p ∈ cs, ∃ v, p.2.data = .cell v
theorem off_new {g h : Heap} {C D : Addr} {od : Obj} {cs tl rest X : List (Addr × Obj)} {ca wr : List Addr} (N : News g C h ((D, od) :: (cs ++ (tl ++ (rest ++ X))))) (hc : CellsAt ca cs) (hX : ∀ b ∈ wr, ∃ o, (b, o) ∈ X) {T : Addr} (hT : h.get? T = none) : T ∉ D :: (ca ++ wr) := by
  have key : ∀ p ∈ (D, od) :: (cs ++ (tl ++ (rest ++ X))), T ≠ p.1 := fun p hp e => by rw [e, (N p hp).1] at hT; cases hT
  intro hm
  rcases List.mem_cons.mp hm with rfl | hm
  · exact key _ (.head _) rfl
  · rcases List.mem_append.mp hm with hm | hm
    · rw [← hc.1] at hm
      obtain ⟨p, hp, e⟩ := List.mem_map.mp hm
      exact key p (.tail _ (List.mem_append_left _ hp)) e.symm
    · obtain ⟨o, ho⟩ := hX T hm
      exact key _ (.tail _ (List.mem_append_right _ (List.mem_append_right _ (List.mem_append_right _ ho)))) rfl
def Off (l : List Addr) (tl : List (Addr × Obj)) : Prop := ∀ p ∈ tl, p.1 ∉ l

theorem Off.cons {l : List Addr} {tl : List (Addr × Obj)} {T : Addr} {o : Obj} (h : Off l tl) (hT : T ∉ l) : Off l ((T, o) :: tl) := fun p hp => by
  rcases List.mem_cons.mp hp with rfl | hp
  · exact hT
  · exact h p hp
/-- what a turn of a comprehension leaves -/
def EltEndG (CP : List (Addr × Obj) → Prop) (g : Heap) (C D : Addr) (acc : List Value) (k : Nat) (ca wr : List Addr) (X : List (Addr × Obj)) (P : List (Addr × Obj) → Prop) (s s₃ : Shared) : Prop :=
  ∃ h' tk' m' cs' tl' news', s₃ = { s with heap := h', toks := tk' } ∧ Fr g C h' m' ∧ News g C h' news' ∧ (∀ p ∈ (D, listOf acc.toArray k) :: (cs' ++ (tl' ++ X)), p ∈ news') ∧ CP cs' ∧ Off (D :: (ca ++ wr)) tl' ∧ P tl'
abbrev EltEnd (g : Heap) (C D : Addr) (acc : List Value) (k : Nat) (ca wr : List Addr) (X : List (Addr × Obj)) (P : List (Addr × Obj) → Prop) (s s₃ : Shared) : Prop := EltEndG (CellsAt ca) g C D acc k ca wr X P s s₃
theorem EltEnd.mk {g : Heap} {C D : Addr} {acc : List Value} {k : Nat} {ca wr : List Addr} {X : List (Addr × Obj)} {P : List (Addr × Obj) → Prop} {s : Shared} {h' : Heap} {tk' : Nat} {m' : Str → Option Value} {news' : List (Addr × Obj)} (cs' tl' : List (Addr × Obj))
    (F : Fr g C h' m') (N : News g C h' news') (sub : ∀ p ∈ (D, listOf acc.toArray k) :: (cs' ++ (tl' ++ X)), p ∈ news') (hc : CellsAt ca cs') (ho : Off (D :: (ca ++ wr)) tl') (hp : P tl') : EltEnd g C D acc k ca wr X P s { s with heap := h', toks := tk' } :=
  ⟨h', tk', m', cs', tl', news', rfl, F, N, sub, hc, ho, hp⟩

theorem comp_coreG (CP : List (Addr × Obj) → Prop) {target elt iter : Expr} {ifs : List Expr} {scope : Scope} {pos : Pos} {I D C : Addr} {cenv : Env} {fp wr : List Addr} {n : Nat} {PI : Nat → Value → List (Addr × Obj) → Prop} {St : Nat → Heap → Prop} {g : Heap} {ca : List Addr} (hCP : ∀ cs, CP cs → cs.map (·.1) = ca) {u₀ : Str → Option Value} {cs₀ : List (Addr × Obj)} {k₀ : Nat}
    (T : Drw prog w A target I fp wr n PI St) (hsz : n ≤ sizeLine) (hfp : ∀ b ∈ fp, b ∉ wr → ∃ o, g.get? b = some o) (hwr : ∀ b ∈ wr, g.get? b = none ∧ b ≠ C ∧ b ≠ D ∧ b ∉ ca) (hDC : D ≠ C) (hDca : D ∉ ca)
    (st : St 0 s.heap) (F : Fr g C s.heap u₀) (N : News g C s.heap ((D, listOf #[] k₀) :: cs₀)) (hc : CP cs₀)
    (P : Nat → List Value → List (Addr × Obj) → Prop) (hp : P 0 [] [])
    (turn : ∀ i v tu u X cs ys k tl h tk (E : Value → Shared → Prop), i < n → PI i v tu → P i ys tl → Off (D :: (ca ++ wr)) tl → (∀ b ∈ wr, ∃ o, (b, o) ∈ X) → (∀ p ∈ X, p.1 ∈ wr) → CP cs → ys.length ≤ i → Fr g C h u → News g C h ((D, listOf ys.toArray k) :: (cs ++ (tl ++ (tu ++ X)))) →
      wpAny (model prog w) A (assign target cenv v) (fun _ s₂ =>
        wpAny (model prog w) A (forIn ifs true fun c r => if r = true then do let ok ← isTrue c cenv (eval c cenv); pure (ForInStep.yield ok) else pure (ForInStep.yield r)) (fun ok s₃ =>
          if ok = true then wpAny (model prog w) A (eval elt cenv) (fun y s₄ => EltEndG CP g C D ys k ca wr X (P (i + 1) (ys ++ [y])) s s₄) E s₃
          else EltEndG CP g C D ys k ca wr X (P (i + 1) ys) s s₃) E s₂) E { s with heap := h, toks := tk })
    (done : ∀ ys k tl h tk u, P n ys tl → Off (D :: (ca ++ wr)) tl → Fr g C h u → News g C h ((D, listOf ys.toArray k) :: tl) → R (.ok .next) { s with heap := h, toks := tk }) :
    codeAny (model prog w) A (.compLoop (.ListComp elt [⟨target, iter, ifs, 0⟩] scope pos) 0 (.ref I) (.ref D) cenv) R s := by
  refine compLoop_own (fun m s' => ∃ i h tk ys k tl cs u, s' = { s with heap := h, toks := tk } ∧ m = n - i ∧ i ≤ n ∧ St i h ∧ P i ys tl ∧ Off (D :: (ca ++ wr)) tl ∧ CP cs ∧ ys.length ≤ i ∧ Fr g C h u ∧ News g C h ((D, listOf ys.toArray k) :: (cs ++ tl))) ?_ n
    ⟨0, s.heap, s.toks, [], k₀, [], cs₀, u₀, rfl, rfl, Nat.zero_le _, st, hp, (fun _ h => nomatch h), hc, Nat.le_refl _, F, by simpa using N⟩
  rintro m s' ⟨i, h, tk, ys, k, tl, cs, u, rfl, rfl, hin, hst, hP, hoff, hcs, hlen, hF, hN⟩
  have hDw : D ∉ wr := fun hm => (hwr D hm).2.2.1 rfl
  have hCw : C ∉ wr := fun hm => (hwr C hm).2.1 rfl
  have hcw : ∀ p ∈ cs, p.1 ∉ wr := fun p hp hm => (hwr _ hm).2.2.2 (hCP _ hcs ▸ List.mem_map_of_mem hp)
  have htw : ∀ p ∈ tl, p.1 ∉ wr := fun p hp hm => hoff p hp (.tail _ (List.mem_append_right _ hm))
  by_cases hi : i < n
  · refine T.step' hi hst (fun v tu h' tk' hPI hst' htu hk => ?_)
    have hX : ∀ b ∈ wr, ∃ o, (b, o) ∈ objsAt h' wr := fun b hb => by obtain ⟨o, ho⟩ := T.live _ _ hst' b hb; exact ⟨o, mem_objsAt.mpr ⟨hb, ho⟩⟩
    have hF' : Fr g C h' u := ⟨hF.ns.at' fun o e => hk _ o hCw e, fun b o e => hk b o (fun hm => by rw [(hwr b hm).1] at e; cases e) (hF.keep b o e), hF.above⟩
    have hN' : News g C h' ((D, listOf ys.toArray k) :: (cs ++ (tl ++ (tu ++ objsAt h' wr)))) := fun p hp => by
      have old : p.1 ∉ wr → p ∈ (D, listOf ys.toArray k) :: (cs ++ tl) → h'.get? p.1 = some p.2 ∧ p.1 ≠ C ∧ g.get? p.1 = none := fun hw hm => ⟨hk _ _ hw (hN p hm).1, (hN p hm).2⟩
      rcases List.mem_cons.mp hp with rfl | hp
      · exact old hDw (.head _)
      · rcases List.mem_append.mp hp with hp | hp
        · exact old (hcw p hp) (.tail _ (List.mem_append_left _ hp))
        · rcases List.mem_append.mp hp with hp | hp
          · exact old (htw p hp) (.tail _ (List.mem_append_right _ hp))
          · rcases List.mem_append.mp hp with hp | hp
            · obtain ⟨h1, h2⟩ := htu p hp
              have h2 : h.get? p.1 = none := h2
              refine ⟨h1, fun e => ?_, ?_⟩
              · obtain ⟨o, _, _, ho, _⟩ := hF.ns
                rw [e, ho] at h2; cases h2
              · cases e : g.get? p.1 with
                | none => rfl
                | some o => rw [hF.keep _ _ e] at h2; cases h2
            · obtain ⟨h1, h2⟩ := mem_objsAt.mp hp
              exact ⟨h2, (hwr _ h1).2.1, (hwr _ h1).1⟩
    have stay : ∀ {h₃ : Heap} {m₃ : Str → Option Value} {news' : List (Addr × Obj)} {cs' tl' : List (Addr × Obj)} {acc : List Value} , Fr g C h₃ m₃ → News g C h₃ news' → (∀ p ∈ (D, listOf acc.toArray k) :: (cs' ++ (tl' ++ objsAt h' wr)), p ∈ news') →
        ∀ h₄ : Heap, (∀ b o, b ≠ D → h₃.get? b = some o → h₄.get? b = some o) → St (i + 1) h₄ := fun {h₃ m₃ news' cs' tl' acc} hF₃ hN₃ hsub h₄ hk₄ => by
      refine T.frame _ _ _ hst' fun b hb o e => ?_
      by_cases hbw : b ∈ wr
      · have := (hN₃ (b, o) (hsub _ (.tail _ (List.mem_append_right _ (List.mem_append_right _ (mem_objsAt.mpr ⟨hbw, e⟩)))))).1
        exact hk₄ b o (hwr b hbw).2.2.1 this
      · obtain ⟨o', ho'⟩ := hfp b hb hbw
        have := hF'.keep _ _ ho'
        rw [this] at e
        cases e
        refine hk₄ b _ (fun hbD => ?_) (hF₃.keep _ _ ho')
        have hD0 : g.get? D = none := (hN _ (.head _)).2.2
        rw [hbD, hD0] at ho'; cases ho'
    refine wpAny_mono (turn i v tu u (objsAt h' wr) cs ys k tl h' tk' _ hi hPI hP hoff hX (fun p hp => (mem_objsAt.mp hp).1) hcs hlen hF' hN') (fun _ s₂ h₂ => wpAny_mono h₂ (fun ok s₃ h₃ => ?_) fun _ _ e => e) fun _ _ e => e
    cases ok with
    | false =>
      simp only [Bool.false_eq_true, if_false] at h₃ ⊢
      obtain ⟨h₃, tk₃, m₃, cs', tl', news', rfl, hF₃, hN₃, hsub, hc', ho', hP'⟩ := h₃
      refine ⟨n - (i + 1), by omega, i + 1, h₃, tk₃, ys, k, tl', cs', m₃, rfl, rfl, hi, stay hF₃ hN₃ hsub h₃ (fun _ _ _ e => e), hP', ho', hc', Nat.le_succ_of_le hlen, hF₃, fun p hp => hN₃ p (hsub p ?_)⟩
      rcases List.mem_cons.mp hp with rfl | hp
      · exact .head _
      · rcases List.mem_append.mp hp with hp | hp
        · exact .tail _ (List.mem_append_left _ hp)
        · exact .tail _ (List.mem_append_right _ (List.mem_append_left _ hp))
    | true =>
      simp only [if_true] at h₃ ⊢
      refine wpAny_mono h₃ (fun y s₄ h₄ => ?_) fun _ _ e => e
      obtain ⟨h₃, tk₃, m₃, cs', tl', news', rfl, hF₃, hN₃, hsub, hc', ho', hP'⟩ := h₄
      have hD₃ := (hN₃ _ (hsub _ (.head _)))
      refine wpAny_list_append_plain (items := ys.toArray) ⟨k, hD₃.1⟩ (fun h₄ hl₄ hs₄ => ?_) (by rw [List.size_toArray]; omega)
      obtain ⟨k', hl₄⟩ := hl₄
      have up : ∀ b o, b ≠ D → h₃.get? b = some o → h₄.get? b = some o := fun b o hb e => hs₄.extBut b o hb e
      refine ⟨n - (i + 1), by omega, i + 1, h₄, tk₃, ys ++ [y], k', tl', cs', m₃, rfl, rfl, hi, stay hF₃ hN₃ hsub h₄ up, hP', ho', hc', by rw [List.length_append, List.length_singleton]; omega, ?_, fun p hp => ?_⟩
      · exact ⟨hF₃.ns.at' fun o e => up _ o (Ne.symm hDC) e, fun b o e => up b o (fun hb => by rw [hb, hD₃.2.2] at e; cases e) (hF₃.keep b o e), hF₃.above⟩
      · rcases List.mem_cons.mp hp with rfl | hp
        · exact ⟨by rw [hl₄]; simp, hD₃.2⟩
        · have hne : p.1 ≠ D := by
            rcases List.mem_append.mp hp with hp | hp
            · exact fun e => hDca (e ▸ hCP _ hc' ▸ List.mem_map_of_mem hp)
            · exact fun e => ho' p hp (e ▸ .head _)
          have hm : p ∈ (D, listOf ys.toArray k) :: (cs' ++ (tl' ++ objsAt h' wr)) := by
            rcases List.mem_append.mp hp with hp | hp
            · exact .tail _ (List.mem_append_left _ hp)
            · exact .tail _ (List.mem_append_right _ (List.mem_append_left _ hp))
          have := hN₃ p (hsub p hm)
          exact ⟨up _ _ hne this.1, this.2⟩
  · have e : i = n := by omega
    subst e
    refine T.done _ _ _ hst fun h' tk' hk => ?_
    refine done ys k tl h' tk' u hP hoff ⟨hF.ns.at' fun o e => hk _ o hCw e, fun b o e => hk b o (fun hm => by rw [(hwr b hm).1] at e; cases e) (hF.keep b o e), hF.above⟩ fun p hp => ?_
    rcases List.mem_cons.mp hp with rfl | hp
    · exact ⟨hk _ _ hDw (hN _ (.head _)).1, (hN _ (.head _)).2⟩
    · exact ⟨hk _ _ (htw p hp) (hN p (.tail _ (List.mem_append_right _ hp))).1, (hN p (.tail _ (List.mem_append_right _ hp))).2⟩
theorem comp_core {target elt iter : Expr} {ifs : List Expr} {scope : Scope} {pos : Pos} {I D C : Addr} {cenv : Env} {fp wr : List Addr} {n : Nat} {PI : Nat → Value → List (Addr × Obj) → Prop} {St : Nat → Heap → Prop} {g : Heap} {ca : List Addr} {u₀ : Str → Option Value} {cs₀ : List (Addr × Obj)} {k₀ : Nat}
    (T : Drw prog w A target I fp wr n PI St) (hsz : n ≤ sizeLine) (hfp : ∀ b ∈ fp, b ∉ wr → ∃ o, g.get? b = some o) (hwr : ∀ b ∈ wr, g.get? b = none ∧ b ≠ C ∧ b ≠ D ∧ b ∉ ca) (hDC : D ≠ C) (hDca : D ∉ ca)
    (st : St 0 s.heap) (F : Fr g C s.heap u₀) (N : News g C s.heap ((D, listOf #[] k₀) :: cs₀)) (hc : CellsAt ca cs₀)
    (P : Nat → List Value → List (Addr × Obj) → Prop) (hp : P 0 [] [])
    (turn : ∀ i v tu u X cs ys k tl h tk (E : Value → Shared → Prop), i < n → PI i v tu → P i ys tl → Off (D :: (ca ++ wr)) tl → (∀ b ∈ wr, ∃ o, (b, o) ∈ X) → (∀ p ∈ X, p.1 ∈ wr) → CellsAt ca cs → ys.length ≤ i → Fr g C h u → News g C h ((D, listOf ys.toArray k) :: (cs ++ (tl ++ (tu ++ X)))) →
      wpAny (model prog w) A (assign target cenv v) (fun _ s₂ =>
        wpAny (model prog w) A (forIn ifs true fun c r => if r = true then do let ok ← isTrue c cenv (eval c cenv); pure (ForInStep.yield ok) else pure (ForInStep.yield r)) (fun ok s₃ =>
          if ok = true then wpAny (model prog w) A (eval elt cenv) (fun y s₄ => EltEnd g C D ys k ca wr X (P (i + 1) (ys ++ [y])) s s₄) E s₃
          else EltEnd g C D ys k ca wr X (P (i + 1) ys) s s₃) E s₂) E { s with heap := h, toks := tk })
    (done : ∀ ys k tl h tk u, P n ys tl → Off (D :: (ca ++ wr)) tl → Fr g C h u → News g C h ((D, listOf ys.toArray k) :: tl) → R (.ok .next) { s with heap := h, toks := tk }) :
    codeAny (model prog w) A (.compLoop (.ListComp elt [⟨target, iter, ifs, 0⟩] scope pos) 0 (.ref I) (.ref D) cenv) R s :=
  comp_coreG (CellsAt ca) (fun _ h => h.1) T hsz hfp hwr hDC hDca st F N hc P hp turn done
end

end
section
/-- the walk begins anew -/
theorem anewQ2 {M : Model} {A : Around} {E : Value → Shared → Prop} {Q : Value → Shared → Prop} {s : Shared} {env : Env} (h : ∀ v s', Q v s') : wpAny M A (eval (.Constant (.int 0) 0 ⟨0, 0, 0, 0⟩) env) Q E s := by
  w_top off
  first
    | (walk1; exact h _ _)
    | exact wpAny_Constant_int (h _ _)
section
variable {M : Model} {A : Around} {E : Value → Shared → Prop} {s : Shared} {env : Env}
theorem newEnv_comp {scope : Scope} {cl : List (Str × Addr)} {Q : Env → Shared → Prop} (ca : Nat → List (Str × Addr)) (hca : ∀ n, cellsFrom n scope.names cl = ca n ++ cl) (hca0 : ∀ n, cellsFrom n scope.names [] = ca n)
    (h : ∀ h₁ cs, h₁.Ns s.heap.objs.size (fun _ => none) → (∀ b o, s.heap.get? b = some o → h₁.get? b = some o) → CellsAt ((ca (s.heap.objs.size + 1)).map (·.2)) cs → (∀ p ∈ cs, h₁.get? p.1 = some p.2 ∧ s.heap.objs.size < p.1) →
      Q { scope := scope, locals := s.heap.objs.size, globals := env.globals, cells := ca (s.heap.objs.size + 1) ++ cl, qual := env.qual, func := none, code := env.code, frame := env.frame, builtins := env.builtins } { s with heap := h₁ }) :
    wpAny M A (newFunctionEnv scope env.globals cl [] env.qual none .none (some env)) Q E s := by
  simp only [newFunctionEnv, Option.isSome_some, if_true]
  refine wpAny_bind (wpAny_alloc ?_)
  refine wpAny_bind (wpAny_layCells _ (fun name kind cells => by cases hkc : kind == NameKind.cell <;> simp [hkc]) _ _ _ _ ?_)
  have ok := cellsFrom_ok scope.names (s.heap.push { cls := .type "dict", data := .dict #[] }) (s.heap.objs.size + 1) [] ⟨fun _ _ hm => (nomatch hm), List.Pairwise.nil⟩ (by rw [Heap.size_push]; exact Nat.le_refl _)
  rw [Heap.size_push, hca0] at ok
  have e1 : (s.heap.push { cls := .type "dict", data := .dict #[] }).objs.size = s.heap.objs.size + 1 := Heap.size_push ..
  show wpAny M A _ Q E { s with heap := pushCells (s.heap.push { cls := .type "dict", data := .dict #[] }) scope.names }
  dsimp only
  rw [e1, hca, List.forIn_nil]
  refine wpAny_bind (wpAny_pure (wpAny_pure ?_))
  have live : ∀ b ∈ (ca (s.heap.objs.size + 1)).map (·.2), ∃ o, (pushCells (s.heap.push { cls := .type "dict", data := .dict #[] }) scope.names).get? b = some o := fun b hb => by
    obtain ⟨⟨n, c⟩, hm, rfl⟩ := List.mem_map.mp hb
    obtain ⟨o, ho, _⟩ := (ok.empty n c hm).1
    exact ⟨o, ho⟩
  refine h _ (objsAt (pushCells (s.heap.push { cls := .type "dict", data := .dict #[] }) scope.names) ((ca (s.heap.objs.size + 1)).map (·.2))) ((Heap.Ns.new s.heap (.type "dict")).keeps (pushCells_keeps _ _)) (fun b o e => pushCells_keeps _ _ b o (Heap.get?_push_of_some _ e)) ⟨objsAt_map live, fun p hp => ?_⟩ fun p hp => ?_
  · obtain ⟨h1, h2⟩ := mem_objsAt.mp hp
    obtain ⟨⟨n, c⟩, hm, e⟩ := List.mem_map.mp h1
    obtain ⟨o, ho, hd⟩ := (ok.empty n c hm).1
    have e : c = p.1 := e
    rw [e, h2] at ho
    cases ho
    exact ⟨none, hd⟩
  · obtain ⟨h1, h2⟩ := mem_objsAt.mp hp
    obtain ⟨⟨n, c⟩, hm, e⟩ := List.mem_map.mp h1
    have e : c = p.1 := e
    have := (ok.empty n c hm).2
    exact ⟨h2, Nat.lt_of_lt_of_le (Nat.lt_succ_self _) (e ▸ this)⟩
end

section
variable {prog : Program} {w : World} {A : Around} {E : Value → Shared → Prop} {s : Shared} {env : Env}

/-- one comprehension, at its iterator -/
structure CompAt (prog : Program) (w : World) (A : Around) (env : Env) (cl : List (Str × Addr)) (ca : Nat → List (Str × Addr)) (target elt : Expr) (ifs : List Expr) (scope : Scope) (lo : List Addr) (Qd : Addr → List (Addr × Obj) → List Value → Nat → Heap → Nat → Prop) (it : Value) (s₂ : Shared)
    (I : Addr) (fp wr : List Addr) (n : Nat) (PI : Nat → Value → List (Addr × Obj) → Prop) (St : Nat → Heap → Prop) (P : Nat → List Value → List (Addr × Obj) → Prop) : Prop where
  it : it = .ref I
  T : Drw prog w A target I fp wr n PI St
  size : n ≤ sizeLine
  sub : ∀ b ∈ wr, b ∈ fp
  live : ∀ b ∈ fp, ∃ o, s₂.heap.get? b = some o
  st : St 0 s₂.heap
  init : P 0 [] []
  turn : ∀ D C g i v tu u X cs ys k tl h tk (E : Value → Shared → Prop), D = s₂.heap.objs.size → C = D + 1 → g = hideAll s₂.heap wr → i < n → PI i v tu → P i ys tl → Off (D :: ((ca (C + 1)).map (·.2) ++ wr)) tl → (∀ b ∈ wr, ∃ o, (b, o) ∈ X) → (∀ p ∈ X, p.1 < D) → CellsAt ((ca (C + 1)).map (·.2)) cs → ys.length ≤ i → Fr g C h u → News g C h ((D, listOf ys.toArray k) :: (cs ++ (tl ++ (tu ++ X)))) →
      wpAny (model prog w) A (assign target (compEnvC scope (ca (C + 1) ++ cl) C env) v) (fun _ s₂' =>
        wpAny (model prog w) A (forIn ifs true fun c r => if r = true then do let ok ← isTrue c (compEnvC scope (ca (C + 1) ++ cl) C env) (eval c (compEnvC scope (ca (C + 1) ++ cl) C env)); pure (ForInStep.yield ok) else pure (ForInStep.yield r)) (fun ok s₃ =>
          if ok = true then wpAny (model prog w) A (eval elt (compEnvC scope (ca (C + 1) ++ cl) C env)) (fun y s₄ => EltEnd g C D ys k ((ca (C + 1)).map (·.2)) wr X (P (i + 1) (ys ++ [y])) { s₂ with heap := h, toks := tk } s₄) E s₃
          else EltEnd g C D ys k ((ca (C + 1)).map (·.2)) wr X (P (i + 1) ys) { s₂ with heap := h, toks := tk } s₃) E s₂') E { s₂ with heap := h, toks := tk }
  done : ∀ D ys k tl h tk, P n ys tl → s₂.heap.get? D = none → (∀ b o, b ∉ wr → b ∉ lo → s₂.heap.get? b = some o → h.get? b = some o) → h.get? D = some (listOf ys.toArray k) → (∀ p ∈ tl, h.get? p.1 = some p.2 ∧ s₂.heap.get? p.1 = none ∧ p.1 ≠ D) → Qd D tl ys k h tk

theorem hide_get {h : Heap} : ∀ {l : List Addr} {b : Addr} {o : Obj}, b ∉ l → h.get? b = some o → (hideAll h l).get? b = some o := by
  intro l b o hb e
  exact hideAll_get l e hb

theorem comp_block {elt iter target : Expr} {ifs : List Expr} {scope : Scope} {cl : List (Str × Addr)} {ca : Nat → List (Str × Addr)} {pos : Pos} {Qd : Addr → List (Addr × Obj) → List Value → Nat → Heap → Nat → Prop} {it : Value} {s₂ : Shared} {I : Addr} {fp wr : List Addr} {n : Nat} {PI : Nat → Value → List (Addr × Obj) → Prop} {St : Nat → Heap → Prop} {P : Nat → List Value → List (Addr × Obj) → Prop} {lo : List Addr}
    (K : CompAt prog w A env cl ca target elt ifs scope lo Qd it s₂ I fp wr n PI St P) {RR : Value → Addr → Result → Shared → Prop}
    (hca : ∀ n, cellsFrom n scope.names cl = ca n ++ cl) (hca0 : ∀ n, cellsFrom n scope.names [] = ca n) (hlo : ∀ b ∈ lo, ∃ o, s₂.heap.get? b = some o)
    (hRR : ∀ D C h tk ys k tl m, C ≠ D → s₂.heap.get? C = none → h.Ns C m → s₂.heap.get? D = none → (∀ h' tk', (∀ b o, b ≠ C → b ∉ lo → h.get? b = some o → h'.get? b = some o) → Qd D tl ys k h' tk') → (∀ b o, b ∉ wr → s₂.heap.get? b = some o → h.get? b = some o) → RR (.ref D) C (.ok .next) { s₂ with heap := h, toks := tk }) :
    wpAny (model prog w) A (newList []) (fun acc s₃ => wpAny (model prog w) A (newFunctionEnv scope env.globals cl [] env.qual none .none (some env)) (fun cenv s₄ =>
      codeAny (model prog w) A (.compStart (.ListComp elt [⟨target, iter, ifs, 0⟩] scope pos) 0 it acc { cenv with scope := relabel scope env }) (RR acc cenv.locals) s₄) E s₃) E s₂ := by
  obtain ⟨rfl, T, hsz, hsub, hlive, st, hp, turn, done⟩ := K
  refine wpAny_newObj_type (newEnv_comp ca hca hca0 fun h₁ cs hns hk hca1 hcs => ?_)
  dsimp only at hns hk hca1 hcs ⊢
  have e1 : (s₂.heap.push { cls := .type "list", dict := none, data := .seq ([] : List Value).toArray }).objs.size = s₂.heap.objs.size + 1 := Heap.size_push ..
  rw [e1] at hns hca1 hcs ⊢
  have old : ∀ b o, s₂.heap.get? b = some o → h₁.get? b = some o := fun b o e => hk b o (Heap.get?_push_of_some _ e)
  have hD : h₁.get? s₂.heap.objs.size = some (listOf #[] 0) := hk _ _ (Heap.get?_push_size _ rfl)
  have hwrlt : ∀ b ∈ wr, b < s₂.heap.objs.size := fun b hb => by obtain ⟨o, ho⟩ := hlive b (hsub b hb); exact Heap.lt_size ho
  have fresh : ∀ a, s₂.heap.objs.size ≤ a → (hideAll s₂.heap wr).get? a = none := fun a ha => by
    cases e : (hideAll s₂.heap wr).get? a with
    | none => rfl
    | some o => exact absurd (Heap.lt_size (of_hideAll _ e)) (Nat.not_lt.mpr ha)
  have hcalt : ∀ b ∈ (ca (s₂.heap.objs.size + 1 + 1)).map (·.2), s₂.heap.objs.size + 1 < b := fun b hb => by
    rw [← hca1.1] at hb
    obtain ⟨p, hp, rfl⟩ := List.mem_map.mp hb
    exact (hcs p hp).2
  have loop : codeAny (model prog w) A (.compLoop (.ListComp elt [⟨target, iter, ifs, 0⟩] scope pos) 0 (.ref I) (.ref s₂.heap.objs.size) (compEnvC scope (ca (s₂.heap.objs.size + 1 + 1) ++ cl) (s₂.heap.objs.size + 1) env))
      (RR (.ref s₂.heap.objs.size) (s₂.heap.objs.size + 1)) { s₂ with heap := h₁ } := by
    refine comp_core (s := { s₂ with heap := h₁ }) (g := hideAll s₂.heap wr) (C := s₂.heap.objs.size + 1) (ca := (ca (s₂.heap.objs.size + 1 + 1)).map (·.2)) (u₀ := fun _ => none) (cs₀ := cs) (k₀ := 0) T hsz (fun b hb hbw => ?_) (fun b hb => ⟨hideAll_none _ hb, ?_, ?_, ?_⟩) (Nat.ne_of_lt (Nat.lt_succ_self _)) (fun hm => ?_) (T.frame _ _ _ st fun b _ o e => old b o e) ⟨hns, fun b o e => old b o (of_hideAll _ e), by rw [hideAll_size]; exact Nat.le_succ _⟩ (fun p hp => ?_) hca1 P hp
      (fun i v tu u X cs ys k tl h tk E' h1 h2 h3 h4 h5 h6 => turn _ _ _ i v tu u X cs ys k tl h tk E' rfl rfl rfl h1 h2 h3 h4 h5 fun p hp => hwrlt _ (h6 p hp)) ?_
    · obtain ⟨o, ho⟩ := hlive b hb
      exact ⟨o, hide_get hbw ho⟩
    · have := hwrlt b hb; exact Nat.ne_of_lt (Nat.lt_succ_of_lt this)
    · have := hwrlt b hb; exact Nat.ne_of_lt this
    · intro hm; have h1 := hwrlt b hb; have h2 := hcalt b hm; exact absurd (Nat.lt_trans h1 (Nat.lt_of_succ_lt h2)) (Nat.lt_irrefl _)
    · have := hcalt _ hm; exact absurd (Nat.lt_of_succ_lt this) (Nat.lt_irrefl _)
    · rcases List.mem_cons.mp hp with rfl | hp
      · exact ⟨hD, Nat.ne_of_lt (Nat.lt_succ_self _), fresh _ (Nat.le_refl _)⟩
      · exact ⟨(hcs p hp).1, Nat.ne_of_gt (hcs p hp).2, fresh _ (Nat.le_of_lt (Nat.lt_of_succ_lt (hcs p hp).2))⟩
    · intro ys k tl h tk u hP hoff hF hN
      have htl : ∀ p ∈ tl, p.1 ∉ wr := fun p hp hm => hoff p hp (.tail _ (List.mem_append_right _ hm))
      have keep : ∀ b o, b ∉ wr → s₂.heap.get? b = some o → h.get? b = some o := fun b o hb e => hF.keep b o (hide_get hb e)
      have hCn : s₂.heap.get? (s₂.heap.objs.size + 1) = none := Heap.get?_none_of_le (Nat.le_succ _)
      refine hRR _ _ h tk ys k tl u (Nat.ne_of_gt (Nat.lt_succ_self _)) hCn hF.ns (Heap.get?_none_of_le (Nat.le_refl _)) (fun h' tk' hk' => ?_) keep
      have hD := hN _ (.head _)
      have nlo : ∀ b, s₂.heap.get? b = none → b ∉ lo := fun b hb hm => by obtain ⟨o, ho⟩ := hlo b hm; rw [hb] at ho; cases ho
      refine done _ ys k tl h' tk' hP (Heap.get?_none_of_le (Nat.le_refl _)) (fun b o hb hb' e => hk' b o (fun hbC => by rw [hbC, hCn] at e; cases e) hb' (keep b o hb e)) (hk' _ _ hD.2.1 (nlo _ (Heap.get?_none_of_le (Nat.le_refl _))) hD.1) fun p hp => ?_
      have h1 := hN p (.tail _ hp)
      have h2 : s₂.heap.get? p.1 = none := by
        cases e : s₂.heap.get? p.1 with
        | none => rfl
        | some o => rw [hide_get (htl p hp) e] at h1; cases h1.2.2
      exact ⟨hk' _ _ h1.2.1 (nlo _ h2) h1.1, h2, fun e => hoff p hp (e ▸ .head _)⟩
  exact codeAny_compStart_list loop (T.self 0 _ _ _ (T.frame _ _ _ st fun b _ o e => old b o e) loop)

theorem ListComp_own {elt iter target : Expr} {ifs : List Expr} {scope : Scope} {cl : List (Str × Addr)} {ca : Nat → List (Str × Addr)} {pos : Pos} {Q : Value → Shared → Prop}
    (hclos : closureFor scope env = pure cl) (hkind : scope.kind = .function) (hnames : ∀ x ∈ scope.names, x.2 = .local → scope.names.lookup x.1 = some .local) (hca : ∀ n, cellsFrom n scope.names cl = ca n ++ cl) (hca0 : ∀ n, cellsFrom n scope.names [] = ca n)
    (h : wpAny (model prog w) A (eval iter env) (fun xv s₁ => wpAny (model prog w) A (pyIter xv) (fun it s₂ => ∃ I fp wr n PI St P, CompAt prog w A env cl ca target elt ifs scope [] (fun D tl ys k h tk => Q (.ref D) { s₂ with heap := h, toks := tk }) it s₂ I fp wr n PI St P) E s₁) E s)
    (hs : ∀ x, foldedSetIterable iter env x = pure x := by intro _; with_unfolding_all rfl) :
    wpAny (model prog w) A (eval (.ListComp elt [⟨target, iter, ifs, 0⟩] scope pos) env) Q E s := by
  rw [eval_ListComp]
  refine wpAny_comprehension_free (use := none) rfl hs hclos hkind hnames (wpAny_mono h (fun xv s₁ h₁ => wpAny_mono h₁ (fun it s₂ h₂ => ?_) fun _ _ e => e) fun _ _ e => e)
  obtain ⟨I, fp, wr, n, PI, St, P, K⟩ := h₂
  refine comp_block K (RR := fun acc C => compPost (model prog w) A E none Q acc C) hca hca0 (fun _ h => nomatch h) ?_
  intro D C h tk ys k tl m hCD hC hn hD hQ hk
  exact ⟨m, hn, fun h' hs' => hQ h' tk fun b o hb _ e => hs'.extBut b o hb e⟩

theorem Assign_ListComp_own {elt iter target : Expr} {y : Str} {py spos : Pos} {ifs : List Expr} {scope : Scope} {cl : List (Str × Addr)} {ca : Nat → List (Str × Addr)} {pos : Pos} {Q : Flow → Shared → Prop}
    (hsw : swapsWith (.ListComp elt [⟨target, iter, ifs, 0⟩] scope pos) (some (.Name y py)) spos.line env = pure true)
    (hclos : closureFor scope env = pure cl) (hkind : scope.kind = .function) (hnames : ∀ x ∈ scope.names, x.2 = .local → scope.names.lookup x.1 = some .local) (hca : ∀ n, cellsFrom n scope.names cl = ca n ++ cl) (hca0 : ∀ n, cellsFrom n scope.names [] = ca n)
    (hy : env.kindOf y = some .local) (hp : (env.scope.kind == .class || (env.scope.kind == .module && env.locals != env.globals)) = false)
    (h : wpAny (model prog w) A (eval iter env) (fun xv s₁ => wpAny (model prog w) A (pyIter xv) (fun it s₂ => ∃ I fp wr n PI St P m, s₂.heap.Ns env.locals m ∧ env.locals ∉ wr ∧
      CompAt prog w A env cl ca target elt ifs scope [env.locals] (fun D tl ys k h tk => h.Ns env.locals (fun z => if z = y then some (.ref D) else m z) → Q .next { s₂ with heap := h, toks := tk }) it s₂ I fp wr n PI St P) E s₁) E s)
    (hs : ∀ x, foldedSetIterable iter env x = pure x := by intro _; with_unfolding_all rfl) :
    wpAny (model prog w) A (exec (.Assign [.Name y py] (.ListComp elt [⟨target, iter, ifs, 0⟩] scope pos) spos) env) Q E s := by
  rw [exec_Assign_Name_used _ _ _ _ hsw]
  refine wpAny_bind (wpAny_standAt (wpAny_bind ?_))
  show wpAny _ A (do let _ ← comprehension (.ListComp elt [⟨target, iter, ifs, 0⟩] scope pos) scope env _ (newList []) false (eval iter env) (some (assign (.Name y py) env))) _ _ s
  refine wpAny_bind (wpAny_mono (wpAny_comprehension_free (use := some (assign (.Name y py) env)) (Q := fun _ s' => Q .next s') rfl hs hclos hkind hnames
    (wpAny_mono h (fun xv s₁ h₁ => wpAny_mono h₁ (fun it s₂ h₂ => ?_) fun _ _ e => e) fun _ _ e => e)) (fun _ s' hq => wpAny_pure (wpAny_pure hq)) fun _ _ e => e)
  obtain ⟨I, fp, wr, n, PI, St, P, m, hn, hLw, K⟩ := h₂
  obtain ⟨oL, es, ep, hL, _⟩ := id hn
  refine comp_block K (RR := fun acc C => compPost (model prog w) A E (some (assign (.Name y py) env)) (fun _ s' => Q .next s') acc C) hca hca0 (fun b hb => ⟨oL, by rw [List.mem_singleton.mp hb]; exact hL⟩) ?_
  intro D C h tk ys k tl m' hCD hC hnC hD hQ hk
  have hLC : env.locals ≠ C := by rintro rfl; rw [hC] at hL; cases hL
  show wpAny _ A (assign (.Name y py) env (.ref D)) _ _ _
  refine wpAny_assign_Name (wpAny_storeName_local hy (hn.at' fun o e => hk _ o hLw e) (fun h₂ hn₂ hs₂ => ?_) hp)
  refine ⟨m', hnC.sameBut hs₂ (Ne.symm hLC), fun h₃ hs₃ => ?_⟩
  refine hQ h₃ _ (fun b o hb hbL e => hs₃.extBut b o hb (hs₂.extBut b o (fun e' => hbL (e' ▸ .head _)) e)) (hn₂.sameBut hs₃ hLC)
end

end
section
/-- the walk begins anew -/
theorem anewQ3 {M : Model} {A : Around} {E : Value → Shared → Prop} {Q : Value → Shared → Prop} {s : Shared} {env : Env} (h : ∀ v s', Q v s') : wpAny M A (eval (.Constant (.int 0) 0 ⟨0, 0, 0, 0⟩) env) Q E s := by
  w_top off
  first
    | (walk1; exact h _ _)
    | exact wpAny_Constant_int (h _ _)
section
variable {prog : Program} {w : World} {A : Around} {E : Value → Shared → Prop} {s s₂ : Shared} {env : Env}
/-- an iterator made at s -/
structure Itr (prog : Program) (w : World) (A : Around) (target : Expr) (s s₂ : Shared) (it : Value) (n : Nat) (PI : Nat → Value → List (Addr × Obj) → Prop) (I : Addr) (fp wr : List Addr) (St : Nat → Heap → Prop) : Prop where
  it : it = .ref I
  T : Drw prog w A target I fp wr n PI St
  sub : ∀ b ∈ wr, b ∈ fp
  live : ∀ b ∈ fp, ∃ o, s₂.heap.get? b = some o
  st : St 0 s₂.heap
  ext : Ext s.heap s₂.heap
  same : ∃ h tk, s₂ = { s with heap := h, toks := tk }
  fresh : ∀ b ∈ wr, s.heap.get? b = none

theorem iter_list {target : Expr} {l : Addr} {vs : List Value} {nn : Nat} {G : Value → Shared → Prop} (hh : A.handled = none) (ht : ∀ I v, letOwnedTupleGo target (.ref I) v = pure ()) (hl : s.heap.get? l = some (listOf vs.toArray nn))
    (h : ∀ I fp wr St s₂, Itr prog w A target s s₂ (.ref I) vs.length (fun (i : Nat) (v : Value) (tu : List (Addr × Obj)) => vs[i]? = some v ∧ tu = []) I fp wr St → G (.ref I) s₂) : wpAny (model prog w) A (pyIter (.ref l)) G E s := by
  have hls : s.heap.IsList l vs.toArray := ⟨_, hl, rfl, nn, rfl⟩
  have hne : l ≠ s.heap.objs.size := Nat.ne_of_lt (Heap.lt_size hl)
  refine wpAny_pyIter_list hls ?_
  have W := Walks.list (prog := prog) (w := w) hh s.heap.objs.size l hne vs.toArray
  have T := Drw.of (target := target) W (fun i h st b hb => by obtain ⟨⟨o, ho, _⟩, _⟩ := id st; exact ⟨o, by rw [List.mem_singleton.mp hb]; exact ho⟩) (ht _)
  have hlen : vs.toArray.size = vs.length := by simp
  rw [hlen] at T
  have e : (fun (i : Nat) (v : Value) (tu : List (Addr × Obj)) => vs.toArray[i]? = some v ∧ tu = []) = fun (i : Nat) (v : Value) (tu : List (Addr × Obj)) => vs[i]? = some v ∧ tu = [] := by funext i v tu; simp
  rw [e] at T
  refine h _ _ _ _ _ ⟨rfl, T, fun b hb => by rw [List.mem_singleton.mp hb]; exact .head _, fun b hb => ?_, ⟨⟨_, Heap.get?_push_size _ rfl, rfl, rfl⟩, hls.at fun o e => Heap.get?_push_of_some _ e⟩, fun b o e => Heap.get?_push_of_some _ e, ⟨_, _, rfl⟩, fun b hb => ?_⟩
  · rcases List.mem_cons.mp hb with rfl | hb
    · exact ⟨_, Heap.get?_push_size _ rfl⟩
    · rw [List.mem_singleton.mp hb]; exact ⟨_, Heap.get?_push_of_some _ hl⟩
  · rw [List.mem_singleton.mp hb]; exact Heap.get?_none_of_le (Nat.le_refl _)

theorem iter_range {target : Expr} {n : Nat} {t : Tok} {G : Value → Shared → Prop} (hh : A.handled = none) (ht : ∀ I v, letOwnedTupleGo target (.ref I) v = pure ()) (hn : n ≤ 1000)
    (h : ∀ I fp wr St s₂, Itr prog w A target s s₂ (.ref I) n (fun (i : Nat) (v : Value) (tu : List (Addr × Obj)) => (∃ t, v = .int (i : Int) t) ∧ tu = []) I fp wr St → G (.ref I) s₂) : wpAny (model prog w) A (call (.type "range") [.int (n : Int) t]) (fun xv s₁ => wpAny (model prog w) A (pyIter xv) G E s₁) E s := by
  refine call_range_1 ?_
  refine wpAny_pyIter_range (IsRange.new ..) (small_one (by decide) (by decide) (by omega) (by omega)) ?_
  have hsz : Builtin.Range.rangeSize 0 (n : Int) 1 = (n : Int) := by rw [rangeSize_one]; split <;> omega
  have W := Walks.range (prog := prog) (w := w) hh (s.heap.push { cls := .type "range", data := .fields #[.int 0 s.toks, .int (n : Int) t, .int 1 (s.toks + 1)] }).objs.size 0 1 n
  have T := Drw.of (target := target) W (fun i h st b hb => by rw [List.mem_singleton.mp hb]; exact ⟨_, st⟩) (ht _)
  have e : (fun (i : Nat) (v : Value) (tu : List (Addr × Obj)) => (∃ t, v = Value.int (0 + (i : Nat) * 1) t) ∧ tu = []) = fun (i : Nat) (v : Value) (tu : List (Addr × Obj)) => (∃ t, v = .int (i : Int) t) ∧ tu = [] := by funext i v tu; simp
  rw [e] at T
  refine h _ _ _ _ _ ⟨rfl, T, fun b hb => hb, fun b hb => ?_, ?_, fun b o e => Heap.get?_push_of_some _ (Heap.get?_push_of_some _ e), ⟨_, _, rfl⟩, fun b hb => ?_⟩
  · rw [List.mem_singleton.mp hb]; exact ⟨_, Heap.get?_push_size _ rfl⟩
  · have e1 : (0 + ((0 : Nat) : Int) * 1) = 0 := by simp
    have e2 : ((n : Int) - ((0 : Nat) : Int)) = Builtin.Range.rangeSize 0 (n : Int) 1 := by rw [hsz]; simp
    rw [e1, e2]
    exact Heap.get?_push_size _ rfl
  · rw [List.mem_singleton.mp hb]; exact Heap.get?_none_of_le (by rw [Heap.size_push]; exact Nat.le_succ _)

theorem cells_none {cs : List (Addr × Obj)} (h : CellsAt [] cs) : cs = [] := List.map_eq_nil_iff.mp h.1
theorem cells_one {c : Addr} {cs : List (Addr × Obj)} (h : CellsAt [c] cs) : ∃ o v, cs = [(c, o)] ∧ o.data = .cell v := by
  obtain ⟨h1, h2⟩ := h
  cases cs with
  | nil => cases h1
  | cons p r =>
    rw [List.map_cons] at h1
    obtain ⟨e1, e2⟩ := List.cons.inj h1
    obtain rfl := List.map_eq_nil_iff.mp e2
    obtain ⟨v, hv⟩ := h2 p (.head _)
    exact ⟨p.2, v, by rw [← e1], hv⟩
theorem cells_is {c : Addr} {o : Obj} {v : Option Value} (h : o.data = .cell v) : CellsAt [c] [(c, o)] := ⟨rfl, fun p hp => by rw [List.mem_singleton.mp hp]; exact ⟨v, h⟩⟩
theorem comp_at {cl : List (Str × Addr)} {ca : Nat → List (Str × Addr)} {target elt : Expr} {ifs : List Expr} {scope : Scope} {lo : List Addr} {Qd : Addr → List (Addr × Obj) → List Value → Nat → Heap → Nat → Prop} {it : Value}
    {n : Nat} {PI : Nat → Value → List (Addr × Obj) → Prop} {I : Addr} {fp wr : List Addr} {St : Nat → Heap → Prop} (K : Itr prog w A target s s₂ it n PI I fp wr St) (hsz : n ≤ sizeLine)
    (P : Nat → List Value → List (Addr × Obj) → Prop) (init : P 0 [] [])
    (turn : ∀ D C g wr i v tu u X cs ys k tl h tk (E : Value → Shared → Prop), Ext s.heap g → C = D + 1 → i < n → PI i v tu → P i ys tl → Off (D :: ((ca (C + 1)).map (·.2) ++ wr)) tl → (∀ b ∈ wr, ∃ o, (b, o) ∈ X) → (∀ p ∈ X, p.1 < D) → CellsAt ((ca (C + 1)).map (·.2)) cs → ys.length ≤ i → Fr g C h u → News g C h ((D, listOf ys.toArray k) :: (cs ++ (tl ++ (tu ++ X)))) →
      wpAny (model prog w) A (assign target (compEnvC scope (ca (C + 1) ++ cl) C env) v) (fun _ s₂' =>
        wpAny (model prog w) A (forIn ifs true fun c r => if r = true then do let ok ← isTrue c (compEnvC scope (ca (C + 1) ++ cl) C env) (eval c (compEnvC scope (ca (C + 1) ++ cl) C env)); pure (ForInStep.yield ok) else pure (ForInStep.yield r)) (fun ok s₃ =>
          if ok = true then wpAny (model prog w) A (eval elt (compEnvC scope (ca (C + 1) ++ cl) C env)) (fun y s₄ => EltEnd g C D ys k ((ca (C + 1)).map (·.2)) wr X (P (i + 1) (ys ++ [y])) { s with heap := h, toks := tk } s₄) E s₃
          else EltEnd g C D ys k ((ca (C + 1)).map (·.2)) wr X (P (i + 1) ys) { s with heap := h, toks := tk } s₃) E s₂') E { s with heap := h, toks := tk })
    (done : ∀ D ys k tl h tk, P n ys tl → s.heap.get? D = none → (∀ b o, b ∉ lo → s.heap.get? b = some o → h.get? b = some o) → h.get? D = some (listOf ys.toArray k) → (∀ p ∈ tl, h.get? p.1 = some p.2 ∧ s.heap.get? p.1 = none ∧ p.1 ≠ D) → Qd D tl ys k h tk) :
    CompAt prog w A env cl ca target elt ifs scope lo Qd it s₂ I fp wr n PI St P := by
  obtain ⟨rfl, T, sub, live, st, ext, ⟨hs, tks, rfl⟩, fresh⟩ := K
  have none_of : ∀ a, hs.get? a = none → s.heap.get? a = none := fun a ha => by
    cases e : s.heap.get? a with
    | none => rfl
    | some o => rw [ext _ _ e] at ha; cases ha
  have hw : ∀ b o, s.heap.get? b = some o → b ∉ wr := fun b o e hb => by rw [fresh b hb] at e; cases e
  refine ⟨rfl, T, hsz, sub, live, st, init, ?_, ?_⟩
  · rintro D C g i v tu u X cs ys k tl h tk E' hD hC rfl hi hPI hP hoff hX hX2 hc hlen F N
    exact turn D C _ wr i v tu u X cs ys k tl h tk E' (fun b o e => hide_get (hw b o e) (ext _ _ e)) hC hi hPI hP hoff hX hX2 hc hlen F N
  · intro D ys k tl h tk hP hD hk hl htl
    refine done D ys k tl h tk hP (none_of _ hD) (fun b o hb e => hk b o (hw b o e) hb (ext _ _ e)) hl fun p hp => ?_
    obtain ⟨h1, h2, h3⟩ := htl p hp
    exact ⟨h1, none_of _ h2, h3⟩
end

end
section
/-- the walk begins anew -/
theorem anewQ4 {M : Model} {A : Around} {E : Value → Shared → Prop} {Q : Value → Shared → Prop} {s : Shared} {env : Env} (h : ∀ v s', Q v s') : wpAny M A (eval (.Constant (.int 0) 0 ⟨0, 0, 0, 0⟩) env) Q E s := by
  w_top off
  first
    | (walk1; exact h _ _)
    | exact wpAny_Constant_int (h _ _)
section
variable {M : Model} {A : Around} {E : Value → Shared → Prop} {s : Shared} {K : Frag} {h₀ : Heap} {m mg mb : Str → Option Value} {scope : Scope} {cl : List (Str × Addr)} {C c : Addr} {env : Env} {p : Program} {loose : List Str}
  {x : Str} {pos : Pos} {v : Value} {o : Obj} {Q : Value → Shared → Prop}
theorem nameC_L (hk : scope.kind = .function) (hx : (compEnvC scope cl C env).kindOf x = some .local) (F : Fr h₀ C s.heap m) (hv : m x = some v) (h : Q v s) (hd : (x == ("__debug__" : Str)) = false := by decide) :
    wpAny M A (eval (.Name x pos) (compEnvC scope cl C env)) Q E s := wpAny_Name (wpAny_loadName_local hk hx F.ns hv h) hd
theorem nameC_C (hk : scope.kind = .function) (hx : (compEnvC scope cl C env).kindOf x = some .cell) (hc : cl.lookup x = some c) (ho : s.heap.get? c = some o) (hd : o.data = .cell (some v)) (h : Q v s) (hb : (x == ("__debug__" : Str)) = false := by decide) :
    wpAny M A (eval (.Name x pos) (compEnvC scope cl C env)) Q E s := wpAny_Name (wpAny_loadName_cell hk hx hc ⟨o, ho, hd⟩ h) hb
theorem assignC_L {Q : Unit → Shared → Prop} {news : List (Addr × Obj)} (hk : scope.kind = .function) (hx : (compEnvC scope cl C env).kindOf x = some .local) (F : Fr h₀ C s.heap m) (N : News h₀ C s.heap news)
    (h : ∀ h' tk', Fr h₀ C h' (fun y => if y = x then some v else m y) → News h₀ C h' news → Q () { s with heap := h', toks := tk' }) : wpAny M A (assign (.Name x pos) (compEnvC scope cl C env) v) Q E s :=
  wpAny_assign_Name (wpAny_storeName_local hx F.ns (fun h' hn hs => h h' _ (F.set hn hs) (N.set hs)) (by
    show ((relabel scope env).kind == .class || ((relabel scope env).kind == .module && C != env.globals)) = false
    have : (relabel scope env).kind = .function := hk
    rw [this]; rfl))
theorem assignC_C {Q : Unit → Shared → Prop} {D : Addr} {od : Obj} {rest : List (Addr × Obj)} {v₀ : Option Value} (hk : scope.kind = .function) (hx : (compEnvC scope cl C env).kindOf x = some .cell) (hc : cl.lookup x = some c) (F : Fr h₀ C s.heap m) (N : News h₀ C s.heap ((D, od) :: (c, o) :: rest)) (hd : o.data = .cell v₀) (hDc : D ≠ c) (hr : ∀ p ∈ rest, p.1 ≠ c)
    (h : ∀ h' o', Fr h₀ C h' m → News h₀ C h' ((D, od) :: (c, o') :: rest) → o'.data = .cell (some v) → Q () { s with heap := h' }) : wpAny M A (assign (.Name x pos) (compEnvC scope cl C env) v) Q E s := by
  have hm := N (c, o) (.tail _ (.head _))
  refine wpAny_assign_Name (wpAny_storeName_cell hk hx hc ⟨o, hm.1, hd⟩ fun h' hv hs => ?_)
  obtain ⟨o', ho', hd'⟩ := hv
  refine h h' o' ⟨F.ns.sameBut hs (Ne.symm hm.2.1), fun b ob e => (hs.2 b (fun q => ?_)).trans (F.keep b ob e), F.above⟩ (fun p hp => ?_) hd'
  · rw [q, hm.2.2] at e; cases e
  · rcases List.mem_cons.mp hp with rfl | hp
    · have := N _ (.head _)
      exact ⟨(hs.2 _ hDc).trans this.1, this.2⟩
    · rcases List.mem_cons.mp hp with rfl | hp
      · exact ⟨ho', hm.2⟩
      · have := N p (.tail _ (.tail _ hp))
        exact ⟨(hs.2 _ (hr p hp)).trans this.1, this.2⟩
end
section
variable {prog : Program} {w : World} {A : Around} {E : Value → Shared → Prop} {s : Shared} {D : Addr} {vs : List Value} {Q : Value → Shared → Prop}
theorem any_nat {k : Nat} : ∀ {ns : List Nat}, (ns.map fun n : Nat => (n : Int)).any (· == (k : Int)) = ns.contains k := by
  intro ns
  induction ns with
  | nil => rfl
  | cons n ns ih =>
    rw [List.map_cons, List.any_cons, List.contains_cons, ih]
    congr 1
    rw [Bool.eq_iff_iff]
    simp
    omega
theorem in_ints {ns : List Nat} {k : Nat} {t : Tok} (hl : s.heap.IsList D vs.toArray) (hi : IntsAre vs (ns.map fun n : Nat => (n : Int))) (h : Q (.bool (ns.contains k)) s) : wpAny (model prog w) A (compareOp .In (.int (k : Int) t) (.ref D)) Q E s :=
  in_list_ints hl hi (by rw [any_nat]; exact h)
theorem notIn_ints {ns : List Nat} {k : Nat} {t : Tok} (hl : s.heap.IsList D vs.toArray) (hi : IntsAre vs (ns.map fun n : Nat => (n : Int))) (h : Q (.bool (!ns.contains k)) s) : wpAny (model prog w) A (compareOp .NotIn (.int (k : Int) t) (.ref D)) Q E s :=
  notin_list_ints hl hi (by rw [any_nat]; exact h)
end

end
section
/-- the walk begins anew -/
theorem anewQ5 {M : Model} {A : Around} {E : Value → Shared → Prop} {Q : Value → Shared → Prop} {s : Shared} {env : Env} (h : ∀ v s', Q v s') : wpAny M A (eval (.Constant (.int 0) 0 ⟨0, 0, 0, 0⟩) env) Q E s := by
  w_top off
  first
    | (walk1; exact h _ _)
    | exact wpAny_Constant_int (h _ _)
section
variable {prog : Program} {w : World} {A : Around} {E : Value → Shared → Prop} {s : Shared}
theorem Drw.ofT {elts : List Expr} {k : Nat} {pos : Pos} {I : Addr} {fp wr : List Addr} {n : Nat} {Pt : Nat → Array Value → Prop} {St : Nat → Heap → Prop} {Mid : Nat → Addr → Heap → Prop} (W : WalksT prog w A I fp wr n Pt St Mid)
    (live : ∀ i h, St i h → ∀ b ∈ wr, ∃ o, h.get? b = some o) :
    Drw prog w A (.Tuple elts k pos) I fp wr n (fun i v tu => ∃ T vals o, v = .ref T ∧ tu = [(T, o)] ∧ Pt i vals ∧ o.cls = .type "tuple" ∧ ∃ m, o.data = .seq vals m) St where
  frame := W.frame
  live := live
  step := fun i s Q E hi st kont => W.item i s _ E hi st fun T vals h' tk hP hsz hT hM hk => by
    obtain ⟨o, ho, hc, m, hd⟩ := hT
    refine W.go elts k pos i T { s with heap := h', toks := tk } _ E hM fun h'' st'' hk'' => ?_
    refine kont (.ref T) [(T, o)] h'' tk ⟨T, vals, o, rfl, rfl, hP, hc, m, hd⟩ st'' (fun p hp => ?_) fun b o hb e => hk'' b o hb (hk b o hb e)
    rw [List.mem_singleton.mp hp]
    exact ⟨hk'' _ _ (W.apart i T h' hM) ho, Heap.get?_none_of_le hsz⟩
  done := W.done
  self := W.self
theorem iter_zip {elts : List Expr} {k : Nat} {pos : Pos} {l1 l2 : Addr} {vs ws : List Value} {n1 n2 : Nat} {G : Value → Shared → Prop} (hh : A.handled = none) (hl1 : s.heap.get? l1 = some (listOf vs.toArray n1)) (hl2 : s.heap.get? l2 = some (listOf ws.toArray n2))
    (h : ∀ I fp wr St s₂, Itr prog w A (.Tuple elts k pos) s s₂ (.ref I) (min vs.length ws.length) (fun (i : Nat) (v : Value) (tu : List (Addr × Obj)) => ∃ T o x y m, v = .ref T ∧ tu = [(T, o)] ∧ vs[i]? = some x ∧ ws[i]? = some y ∧ o.cls = .type "tuple" ∧ o.data = .seq #[x, y] m) I fp wr St → G (.ref I) s₂) :
    wpAny (model prog w) A (call (.type "zip") [.ref l1, .ref l2]) (fun xv s₁ => wpAny (model prog w) A (pyIter xv) G E s₁) E s := by
  have h1 : s.heap.IsList l1 vs.toArray := ⟨_, hl1, rfl, n1, rfl⟩
  have h2 : s.heap.IsList l2 ws.toArray := ⟨_, hl2, rfl, n2, rfl⟩
  have lt1 : @LT.lt Nat _ l1 s.heap.objs.size := Heap.lt_size hl1
  have lt2 : @LT.lt Nat _ l2 s.heap.objs.size := Heap.lt_size hl2
  refine call_zip_2 h1 h2 fun h' hz hTI hTO hi1 hi2 hsz hk => ?_
  have D : ZipApart (s.heap.objs.size + 4) (s.heap.objs.size + 2) (s.heap.objs.size + 3) s.heap.objs.size (s.heap.objs.size + 1) l1 l2 := by
    constructor <;> (show @Ne Nat _ _; omega)
  have W := WalksT.zip2 (prog := prog) (w := w) hh _ _ _ _ _ l1 l2 D vs.toArray ws.toArray
  have T := Drw.ofT (elts := elts) (k := k) (pos := pos) W (fun i h st b hb => by
    obtain ⟨a1, _, ⟨x, y, a2⟩, ⟨o3, a3, _⟩, ⟨o4, a4, _⟩, _⟩ := st
    simp only [List.mem_cons, List.not_mem_nil, or_false] at hb
    rcases hb with rfl | rfl | rfl | rfl
    · exact ⟨_, a1⟩
    · exact ⟨_, a2⟩
    · exact ⟨_, a3⟩
    · exact ⟨_, a4⟩)
  have e : min vs.toArray.size ws.toArray.size = min vs.length ws.length := by simp
  rw [e] at T
  have st : IsZip h' (s.heap.objs.size + 4) (s.heap.objs.size + 2) (s.heap.objs.size + 3) .none ∧ IsPair h' (s.heap.objs.size + 2) (.ref s.heap.objs.size) (.ref (s.heap.objs.size + 1)) ∧ (∃ a b, IsPair h' (s.heap.objs.size + 3) a b) ∧ h'.IsListIter s.heap.objs.size l1 0 ∧ h'.IsListIter (s.heap.objs.size + 1) l2 0 ∧ h'.IsList l1 vs.toArray ∧ h'.IsList l2 ws.toArray :=
    ⟨hz, hTI, ⟨_, _, hTO⟩, hi1, hi2, h1.at fun o e => hk _ o e, h2.at fun o e => hk _ o e⟩
  refine W.self 0 _ _ _ st ?_
  refine h _ _ _ _ _ ⟨rfl, ⟨T.frame, T.live, fun i s Q E hi st kont => T.step i s Q E hi st fun v tu h' tk hP => kont v tu h' tk ?_, T.done, T.self⟩, fun b hb => ?_, fun b hb => ?_, st, hk, ⟨h', _, rfl⟩, fun b hb => ?_⟩
  · obtain ⟨T, vals, o, rfl, rfl, ⟨x, y, hx, hy, rfl⟩, hc, m, hd⟩ := hP
    exact ⟨T, o, x, y, m, rfl, rfl, by simpa using hx, by simpa using hy, hc, hd⟩
  · simp only [List.mem_cons, List.not_mem_nil, or_false] at hb ⊢
    rcases hb with rfl | rfl | rfl | rfl <;> simp
  · simp only [List.mem_cons, List.not_mem_nil, or_false] at hb
    rcases hb with rfl | rfl | rfl | rfl | rfl | rfl | rfl
    · exact ⟨_, hz⟩
    · exact ⟨_, hTI⟩
    · exact ⟨_, hTO⟩
    · obtain ⟨o, ho, _⟩ := hi1; exact ⟨_, ho⟩
    · obtain ⟨o, ho, _⟩ := hi2; exact ⟨_, ho⟩
    · exact ⟨_, hk _ _ hl1⟩
    · exact ⟨_, hk _ _ hl2⟩
  · simp only [List.mem_cons, List.not_mem_nil, or_false] at hb
    refine Heap.get?_none_of_le ?_
    rcases hb with rfl | rfl | rfl | rfl <;> omega
end

end
section
/-- the walk begins anew -/
theorem anewQ6 {M : Model} {A : Around} {E : Value → Shared → Prop} {Q : Value → Shared → Prop} {s : Shared} {env : Env} (h : ∀ v s', Q v s') : wpAny M A (eval (.Constant (.int 0) 0 ⟨0, 0, 0, 0⟩) env) Q E s := by
  w_top off
  first
    | (walk1; exact h _ _)
    | exact wpAny_Constant_int (h _ _)
section
variable {prog : Program} {w : World} {A : Around} {E : Value → Shared → Prop} {R : Result → Shared → Prop} {s : Shared}
theorem compLoopD_own {kx vx target iter : Expr} {ifs : List Expr} {scope : Scope} {pos : Pos} {it : Value} {D : Addr} {env : Env} (I : Nat → Shared → Prop)
    (turn : ∀ n s, I n s → wpAny (model prog w) A (pyNext it) (fun r s₁ => match r with
      | none => R (.ok .next) s₁
      | some v => wpAny (model prog w) A (letOwnedTupleGo target it v) (fun _ s₁' => wpAny (model prog w) A (assign target env v) (fun _ s₂ =>
          wpAny (model prog w) A (forIn ifs true fun c r => if r = true then do let ok ← isTrue c env (eval c env); pure (ForInStep.yield ok) else pure (ForInStep.yield r)) (fun ok s₃ =>
            if ok = true then wpAny (model prog w) A (eval kx env) (fun kv s₄ => wpAny (model prog w) A (eval vx env) (fun vv s₅ =>
              wpAny (model prog w) A (dictSet D kv vv) (fun _ s₆ => ∃ m, m < n ∧ I m s₆) (notedBy (model prog w) A env fun e s' => R (.error e) s') s₅) (notedBy (model prog w) A env fun e s' => R (.error e) s') s₄) (notedBy (model prog w) A env fun e s' => R (.error e) s') s₃
            else ∃ m, m < n ∧ I m s₃) (notedBy (model prog w) A env fun e s' => R (.error e) s') s₂) (notedBy (model prog w) A env fun e s' => R (.error e) s') s₁') (notedBy (model prog w) A env fun e s' => R (.error e) s') s₁) (notedBy (model prog w) A env fun e s' => R (.error e) s') s)
    (n : Nat) (h : I n s) : codeAny (model prog w) A (.compLoop (.DictComp kx vx [⟨target, iter, ifs, 0⟩] scope pos) 0 it (.ref D) env) R s := by
  refine codeAny_loop rfl I (fun n s hI => ?_) n h
  show wpAny _ A ((compTurn (.DictComp kx vx [⟨target, iter, ifs, 0⟩] scope pos) 0 it (.ref D) env).onRaise (fun x => do noteFrame x env; theTreesLotGoes x)) _ _ s
  refine wpAny_noted ?_
  rw [compTurn_dict]
  refine wpAny_bind (wpAny_standAt (wpAny_bind (wpAny_mono (turn n s hI) (fun r s₁ h₁ => ?_) fun _ _ h' => h')))
  cases r with
  | none => exact wpAny_pure h₁
  | some v =>
    refine wpAny_bind (wpAny_mono h₁ (fun _ s₁' h₁' => ?_) fun _ _ h' => h')
    refine wpAny_bind (wpAny_mono h₁' (fun _ s₂ h₂ => wpAny_bind (wpAny_mono h₂ (fun ok s₃ h₃ => ?_) fun _ _ h' => h')) fun _ _ h' => h')
    cases ok with
    | false => exact wpAny_pure ⟨rfl, h₃⟩
    | true => exact wpAny_bind (wpAny_bind (wpAny_mono h₃ (fun kv s₄ h₄ => wpAny_bind (wpAny_holding (wpAny_mono h₄ (fun vv s₅ h₅ => wpAny_bind (wpAny_standAt (wpAny_holding (wpAny_mono h₅ (fun _ s₆ h₆ => wpAny_pure ⟨rfl, h₆⟩) fun _ _ h' => h')))) fun _ _ h' => h'))) fun _ _ h' => h'))

def EndD (CP : List (Addr × Obj) → Prop) (g : Heap) (C D : Addr) (od : Obj) (ca wr : List Addr) (X : List (Addr × Obj)) (P : List (Addr × Obj) → Prop) (s s₃ : Shared) : Prop :=
  ∃ h' tk' m' cs' tl' news', s₃ = { s with heap := h', toks := tk' } ∧ Fr g C h' m' ∧ News g C h' news' ∧ (∀ p ∈ (D, od) :: (cs' ++ (tl' ++ X)), p ∈ news') ∧ CP cs' ∧ Off (D :: (ca ++ wr)) tl' ∧ P tl'
theorem comp_coreD {K : Type} [DecidableEq K] {knd : KeyKind prog w K} (CP : List (Addr × Obj) → Prop) {target kx vx iter : Expr} {ifs : List Expr} {scope : Scope} {pos : Pos} {I D C : Addr} {cenv : Env} {fp wr : List Addr} {n : Nat} {PI : Nat → Value → List (Addr × Obj) → Prop} {St : Nat → Heap → Prop} {g : Heap} {ca : List Addr} (hCP : ∀ cs, CP cs → cs.map (·.1) = ca) {u₀ : Str → Option Value} {cs₀ : List (Addr × Obj)} {od₀ : Obj}
    (T : Drw prog w A target I fp wr n PI St) (hsz : n ≤ sizeLine) (hfp : ∀ b ∈ fp, b ∉ wr → ∃ o, g.get? b = some o) (hwr : ∀ b ∈ wr, g.get? b = none ∧ b ≠ C ∧ b ≠ D ∧ b ∉ ca) (hDC : D ≠ C) (hDca : D ∉ ca)
    (st : St 0 s.heap) (F : Fr g C s.heap u₀) (N : News g C s.heap ((D, od₀) :: cs₀)) (hc : CP cs₀) (hd : s.heap.DictOf knd D [])
    (P : Nat → List (K × Value) → List (Addr × Obj) → Prop) (hp : P 0 [] [])
    (turn : ∀ i v tu u X cs ys od tl h tk (E : Value → Shared → Prop), i < n → PI i v tu → P i ys tl → Off (D :: (ca ++ wr)) tl → (∀ b ∈ wr, ∃ o, (b, o) ∈ X) → (∀ p ∈ X, p.1 ∈ wr) → CP cs → ys.length ≤ i → Fr g C h u → News g C h ((D, od) :: (cs ++ (tl ++ (tu ++ X)))) →
      wpAny (model prog w) A (assign target cenv v) (fun _ s₂ =>
        wpAny (model prog w) A (forIn ifs true fun c r => if r = true then do let ok ← isTrue c cenv (eval c cenv); pure (ForInStep.yield ok) else pure (ForInStep.yield r)) (fun ok s₃ =>
          if ok = true then wpAny (model prog w) A (eval kx cenv) (fun kv s₄ => wpAny (model prog w) A (eval vx cenv) (fun vv s₅ => ∃ key, knd.is key kv = true ∧ EndD CP g C D od ca wr X (P (i + 1) (stored ys key vv)) s s₅) E s₄) E s₃
          else EndD CP g C D od ca wr X (P (i + 1) ys) s s₃) E s₂) E { s with heap := h, toks := tk })
    (done : ∀ ys od tl h tk u, P n ys tl → Off (D :: (ca ++ wr)) tl → h.DictOf knd D ys → Fr g C h u → News g C h ((D, od) :: tl) → R (.ok .next) { s with heap := h, toks := tk }) :
    codeAny (model prog w) A (.compLoop (.DictComp kx vx [⟨target, iter, ifs, 0⟩] scope pos) 0 (.ref I) (.ref D) cenv) R s := by
  refine compLoopD_own (fun m s' => ∃ i h tk ys od tl cs u, s' = { s with heap := h, toks := tk } ∧ m = n - i ∧ i ≤ n ∧ St i h ∧ P i ys tl ∧ Off (D :: (ca ++ wr)) tl ∧ CP cs ∧ ys.length ≤ i ∧ h.DictOf knd D ys ∧ Fr g C h u ∧ News g C h ((D, od) :: (cs ++ tl))) ?_ n
    ⟨0, s.heap, s.toks, [], od₀, [], cs₀, u₀, rfl, rfl, Nat.zero_le _, st, hp, (fun _ h => nomatch h), hc, Nat.le_refl _, hd, F, by simpa using N⟩
  rintro m s' ⟨i, h, tk, ys, od, tl, cs, u, rfl, rfl, hin, hst, hP, hoff, hcs, hlen, hdo, hF, hN⟩
  have hDw : D ∉ wr := fun hm => (hwr D hm).2.2.1 rfl
  have hCw : C ∉ wr := fun hm => (hwr C hm).2.1 rfl
  have hcw : ∀ p ∈ cs, p.1 ∉ wr := fun p hp hm => (hwr _ hm).2.2.2 (hCP _ hcs ▸ List.mem_map_of_mem hp)
  have htw : ∀ p ∈ tl, p.1 ∉ wr := fun p hp hm => hoff p hp (.tail _ (List.mem_append_right _ hm))
  by_cases hi : i < n
  · refine T.step' hi hst (fun v tu h' tk' hPI hst' htu hk => ?_)
    have hX : ∀ b ∈ wr, ∃ o, (b, o) ∈ objsAt h' wr := fun b hb => by obtain ⟨o, ho⟩ := T.live _ _ hst' b hb; exact ⟨o, mem_objsAt.mpr ⟨hb, ho⟩⟩
    have hF' : Fr g C h' u := ⟨hF.ns.at' fun o e => hk _ o hCw e, fun b o e => hk b o (fun hm => by rw [(hwr b hm).1] at e; cases e) (hF.keep b o e), hF.above⟩
    have hN' : News g C h' ((D, od) :: (cs ++ (tl ++ (tu ++ objsAt h' wr)))) := fun p hp => by
      have old : p.1 ∉ wr → p ∈ (D, od) :: (cs ++ tl) → h'.get? p.1 = some p.2 ∧ p.1 ≠ C ∧ g.get? p.1 = none := fun hw hm => ⟨hk _ _ hw (hN p hm).1, (hN p hm).2⟩
      rcases List.mem_cons.mp hp with rfl | hp
      · exact old hDw (.head _)
      · rcases List.mem_append.mp hp with hp | hp
        · exact old (hcw p hp) (.tail _ (List.mem_append_left _ hp))
        · rcases List.mem_append.mp hp with hp | hp
          · exact old (htw p hp) (.tail _ (List.mem_append_right _ hp))
          · rcases List.mem_append.mp hp with hp | hp
            · obtain ⟨h1, h2⟩ := htu p hp
              have h2 : h.get? p.1 = none := h2
              refine ⟨h1, fun e => ?_, ?_⟩
              · obtain ⟨o, _, _, ho, _⟩ := hF.ns
                rw [e, ho] at h2; cases h2
              · cases e : g.get? p.1 with
                | none => rfl
                | some o => rw [hF.keep _ _ e] at h2; cases h2
            · obtain ⟨h1, h2⟩ := mem_objsAt.mp hp
              exact ⟨h2, (hwr _ h1).2.1, (hwr _ h1).1⟩
    have stay : ∀ {h₃ : Heap} {m₃ : Str → Option Value} {news' : List (Addr × Obj)} {cs' tl' : List (Addr × Obj)}, Fr g C h₃ m₃ → News g C h₃ news' → (∀ p ∈ (D, od) :: (cs' ++ (tl' ++ objsAt h' wr)), p ∈ news') →
        ∀ h₄ : Heap, (∀ b o, b ≠ D → h₃.get? b = some o → h₄.get? b = some o) → St (i + 1) h₄ := fun {h₃ m₃ news' cs' tl'} hF₃ hN₃ hsub h₄ hk₄ => by
      refine T.frame _ _ _ hst' fun b hb o e => ?_
      by_cases hbw : b ∈ wr
      · have := (hN₃ (b, o) (hsub _ (.tail _ (List.mem_append_right _ (List.mem_append_right _ (mem_objsAt.mpr ⟨hbw, e⟩)))))).1
        exact hk₄ b o (hwr b hbw).2.2.1 this
      · obtain ⟨o', ho'⟩ := hfp b hb hbw
        have := hF'.keep _ _ ho'
        rw [this] at e
        cases e
        refine hk₄ b _ (fun hbD => ?_) (hF₃.keep _ _ ho')
        have hD0 : g.get? D = none := (hN _ (.head _)).2.2
        rw [hbD, hD0] at ho'; cases ho'
    have hdo' : h'.DictOf knd D ys := hdo.at fun o e => hk _ o hDw e
    have dict : ∀ {h₃ : Heap} {news' : List (Addr × Obj)}, News g C h₃ news' → (D, od) ∈ news' → h₃.DictOf knd D ys := fun {h₃ news'} hN₃ hm => hdo'.at fun o e => by
      rw [(hN' _ (.head _)).1] at e
      cases e
      exact (hN₃ _ hm).1
    refine wpAny_mono (turn i v tu u (objsAt h' wr) cs ys od tl h' tk' _ hi hPI hP hoff hX (fun p hp => (mem_objsAt.mp hp).1) hcs hlen hF' hN') (fun _ s₂ h₂ => wpAny_mono h₂ (fun ok s₃ h₃ => ?_) fun _ _ e => e) fun _ _ e => e
    cases ok with
    | false =>
      simp only [Bool.false_eq_true, if_false] at h₃ ⊢
      obtain ⟨h₃, tk₃, m₃, cs', tl', news', rfl, hF₃, hN₃, hsub, hc', ho', hP'⟩ := h₃
      refine ⟨n - (i + 1), by omega, i + 1, h₃, tk₃, ys, od, tl', cs', m₃, rfl, rfl, hi, stay hF₃ hN₃ hsub h₃ (fun _ _ _ e => e), hP', ho', hc', Nat.le_succ_of_le hlen, dict hN₃ (hsub _ (.head _)), hF₃, fun p hp => hN₃ p (hsub p ?_)⟩
      rcases List.mem_cons.mp hp with rfl | hp
      · exact .head _
      · rcases List.mem_append.mp hp with hp | hp
        · exact .tail _ (List.mem_append_left _ hp)
        · exact .tail _ (List.mem_append_right _ (List.mem_append_left _ hp))
    | true =>
      simp only [if_true] at h₃ ⊢
      refine wpAny_mono h₃ (fun kv s₄ h₄ => wpAny_mono h₄ (fun vv s₅ h₅ => ?_) fun _ _ e => e) fun _ _ e => e
      obtain ⟨key, hkey, h₃, tk₃, m₃, cs', tl', news', rfl, hF₃, hN₃, hsub, hc', ho', hP'⟩ := h₅
      have hD₃ := (hN₃ _ (hsub _ (.head _)))
      refine wpAny_dictSet_pairs hkey (dict hN₃ (hsub _ (.head _))) (fun h₄ hl₄ hs₄ => ?_) (by omega)
      have up : ∀ b o, b ≠ D → h₃.get? b = some o → h₄.get? b = some o := fun b o hb e => hs₄.extBut b o hb e
      obtain ⟨od', hod', _⟩ := Heap.dictOf_iff.mp hl₄
      refine ⟨n - (i + 1), by omega, i + 1, h₄, _, stored ys key vv, od', tl', cs', m₃, rfl, rfl, hi, stay hF₃ hN₃ hsub h₄ up, hP', ho', hc', Nat.le_trans (stored_length_le _ _ _) (Nat.succ_le_succ hlen), hl₄, ?_, fun p hp => ?_⟩
      · exact ⟨hF₃.ns.at' fun o e => up _ o (Ne.symm hDC) e, fun b o e => up b o (fun hb => by rw [hb, hD₃.2.2] at e; cases e) (hF₃.keep b o e), hF₃.above⟩
      · rcases List.mem_cons.mp hp with rfl | hp
        · exact ⟨hod', hD₃.2⟩
        · have hne : p.1 ≠ D := by
            rcases List.mem_append.mp hp with hp | hp
            · exact fun e => hDca (e ▸ hCP _ hc' ▸ List.mem_map_of_mem hp)
            · exact fun e => ho' p hp (e ▸ .head _)
          have hm : p ∈ (D, od) :: (cs' ++ (tl' ++ objsAt h' wr)) := by
            rcases List.mem_append.mp hp with hp | hp
            · exact .tail _ (List.mem_append_left _ hp)
            · exact .tail _ (List.mem_append_right _ (List.mem_append_left _ hp))
          have := hN₃ p (hsub p hm)
          exact ⟨up _ _ hne this.1, this.2⟩
  · have e : i = n := by omega
    subst e
    refine T.done _ _ _ hst fun h' tk' hk => ?_
    refine done ys od tl h' tk' u hP hoff (hdo.at fun o e => hk _ o hDw e) ⟨hF.ns.at' fun o e => hk _ o hCw e, fun b o e => hk b o (fun hm => by rw [(hwr b hm).1] at e; cases e) (hF.keep b o e), hF.above⟩ fun p hp => ?_
    rcases List.mem_cons.mp hp with rfl | hp
    · exact ⟨hk _ _ hDw (hN _ (.head _)).1, (hN _ (.head _)).2⟩
    · exact ⟨hk _ _ (htw p hp) (hN p (.tail _ (List.mem_append_right _ hp))).1, (hN p (.tail _ (List.mem_append_right _ hp))).2⟩
end

end
section
/-- the walk begins anew -/
theorem anewQ7 {M : Model} {A : Around} {E : Value → Shared → Prop} {Q : Value → Shared → Prop} {s : Shared} {env : Env} (h : ∀ v s', Q v s') : wpAny M A (eval (.Constant (.int 0) 0 ⟨0, 0, 0, 0⟩) env) Q E s := by
  w_top off
  first
    | (walk1; exact h _ _)
    | exact wpAny_Constant_int (h _ _)
section
variable {prog : Program} {w : World} {A : Around} {E : Value → Shared → Prop} {s : Shared} {env : Env}
/-- one comprehension, at its iterator -/
structure CompAtD {K : Type} [DecidableEq K] {prog : Program} {w : World} (knd : KeyKind prog w K) (A : Around) (env : Env) (cl : List (Str × Addr)) (ca : Nat → List (Str × Addr)) (target kx vx : Expr) (ifs : List Expr) (scope : Scope) (lo : List Addr) (Qd : Addr → List (Addr × Obj) → List (K × Value) → Heap → Nat → Prop) (it : Value) (s₂ : Shared)
    (I : Addr) (fp wr : List Addr) (n : Nat) (PI : Nat → Value → List (Addr × Obj) → Prop) (St : Nat → Heap → Prop) (P : Nat → List (K × Value) → List (Addr × Obj) → Prop) : Prop where
  it : it = .ref I
  T : Drw prog w A target I fp wr n PI St
  size : n ≤ sizeLine
  sub : ∀ b ∈ wr, b ∈ fp
  live : ∀ b ∈ fp, ∃ o, s₂.heap.get? b = some o
  st : St 0 s₂.heap
  init : P 0 [] []
  turn : ∀ D C g i v tu u X cs ys od tl h tk (E : Value → Shared → Prop), D = s₂.heap.objs.size → C = D + 1 → g = hideAll s₂.heap wr → i < n → PI i v tu → P i ys tl → Off (D :: ((ca (C + 1)).map (·.2) ++ wr)) tl → (∀ b ∈ wr, ∃ o, (b, o) ∈ X) → (∀ p ∈ X, p.1 < D) → CellsAt ((ca (C + 1)).map (·.2)) cs → ys.length ≤ i → Fr g C h u → News g C h ((D, od) :: (cs ++ (tl ++ (tu ++ X)))) →
      wpAny (model prog w) A (assign target (compEnvC scope (ca (C + 1) ++ cl) C env) v) (fun _ s₂' =>
        wpAny (model prog w) A (forIn ifs true fun c r => if r = true then do let ok ← isTrue c (compEnvC scope (ca (C + 1) ++ cl) C env) (eval c (compEnvC scope (ca (C + 1) ++ cl) C env)); pure (ForInStep.yield ok) else pure (ForInStep.yield r)) (fun ok s₃ =>
          if ok = true then wpAny (model prog w) A (eval kx (compEnvC scope (ca (C + 1) ++ cl) C env)) (fun kv s₄ => wpAny (model prog w) A (eval vx (compEnvC scope (ca (C + 1) ++ cl) C env)) (fun vv s₅ => ∃ key, knd.is key kv = true ∧ EndD (CellsAt ((ca (C + 1)).map (·.2))) g C D od ((ca (C + 1)).map (·.2)) wr X (P (i + 1) (stored ys key vv)) { s₂ with heap := h, toks := tk } s₅) E s₄) E s₃
          else EndD (CellsAt ((ca (C + 1)).map (·.2))) g C D od ((ca (C + 1)).map (·.2)) wr X (P (i + 1) ys) { s₂ with heap := h, toks := tk } s₃) E s₂') E { s₂ with heap := h, toks := tk }
  done : ∀ D ys tl h tk, P n ys tl → s₂.heap.get? D = none → (∀ b o, b ∉ wr → b ∉ lo → s₂.heap.get? b = some o → h.get? b = some o) → h.DictOf knd D ys → (∀ p ∈ tl, h.get? p.1 = some p.2 ∧ s₂.heap.get? p.1 = none ∧ p.1 ≠ D) → Qd D tl ys h tk

theorem comp_blockD {K : Type} [DecidableEq K] {knd : KeyKind prog w K} {kx vx iter target : Expr} {ifs : List Expr} {scope : Scope} {cl : List (Str × Addr)} {ca : Nat → List (Str × Addr)} {pos : Pos} {Qd : Addr → List (Addr × Obj) → List (K × Value) → Heap → Nat → Prop} {it : Value} {s₂ : Shared} {I : Addr} {fp wr : List Addr} {n : Nat} {PI : Nat → Value → List (Addr × Obj) → Prop} {St : Nat → Heap → Prop} {P : Nat → List (K × Value) → List (Addr × Obj) → Prop} {lo : List Addr}
    (H : CompAtD knd A env cl ca target kx vx ifs scope lo Qd it s₂ I fp wr n PI St P) {RR : Value → Addr → Result → Shared → Prop}
    (hca : ∀ n, cellsFrom n scope.names cl = ca n ++ cl) (hca0 : ∀ n, cellsFrom n scope.names [] = ca n) (hlo : ∀ b ∈ lo, ∃ o, s₂.heap.get? b = some o)
    (hRR : ∀ D C h tk ys tl m, C ≠ D → s₂.heap.get? C = none → h.Ns C m → s₂.heap.get? D = none → (∀ h' tk', (∀ b o, b ≠ C → b ∉ lo → h.get? b = some o → h'.get? b = some o) → Qd D tl ys h' tk') → (∀ b o, b ∉ wr → s₂.heap.get? b = some o → h.get? b = some o) → RR (.ref D) C (.ok .next) { s₂ with heap := h, toks := tk }) :
    wpAny (model prog w) A newDict (fun acc s₃ => wpAny (model prog w) A (newFunctionEnv scope env.globals cl [] env.qual none .none (some env)) (fun cenv s₄ =>
      codeAny (model prog w) A (.compStart (.DictComp kx vx [⟨target, iter, ifs, 0⟩] scope pos) 0 it acc { cenv with scope := relabel scope env }) (RR acc cenv.locals) s₄) E s₃) E s₂ := by
  obtain ⟨rfl, T, hsz, hsub, hlive, st, hp, turn, done⟩ := H
  refine wpAny_newObj_type (newEnv_comp ca hca hca0 fun h₁ cs hns hk hca1 hcs => ?_)
  dsimp only at hns hk hca1 hcs ⊢
  have e1 : (s₂.heap.push { cls := .type "dict", dict := none, data := .dict #[] }).objs.size = s₂.heap.objs.size + 1 := Heap.size_push ..
  rw [e1] at hns hca1 hcs ⊢
  have old : ∀ b o, s₂.heap.get? b = some o → h₁.get? b = some o := fun b o e => hk b o (Heap.get?_push_of_some _ e)
  have hD : h₁.get? s₂.heap.objs.size = some { cls := .type "dict", dict := none, data := .dict #[] } := hk _ _ (Heap.get?_push_size _ rfl)
  have hDd : h₁.DictOf knd s₂.heap.objs.size [] := (Heap.DictOf.new s₂.heap).at fun o e => hk _ _ e
  have hwrlt : ∀ b ∈ wr, b < s₂.heap.objs.size := fun b hb => by obtain ⟨o, ho⟩ := hlive b (hsub b hb); exact Heap.lt_size ho
  have fresh : ∀ a, s₂.heap.objs.size ≤ a → (hideAll s₂.heap wr).get? a = none := fun a ha => by
    cases e : (hideAll s₂.heap wr).get? a with
    | none => rfl
    | some o => exact absurd (Heap.lt_size (of_hideAll _ e)) (Nat.not_lt.mpr ha)
  have hcalt : ∀ b ∈ (ca (s₂.heap.objs.size + 1 + 1)).map (·.2), s₂.heap.objs.size + 1 < b := fun b hb => by
    rw [← hca1.1] at hb
    obtain ⟨p, hp, rfl⟩ := List.mem_map.mp hb
    exact (hcs p hp).2
  have loop : codeAny (model prog w) A (.compLoop (.DictComp kx vx [⟨target, iter, ifs, 0⟩] scope pos) 0 (.ref I) (.ref s₂.heap.objs.size) (compEnvC scope (ca (s₂.heap.objs.size + 1 + 1) ++ cl) (s₂.heap.objs.size + 1) env))
      (RR (.ref s₂.heap.objs.size) (s₂.heap.objs.size + 1)) { s₂ with heap := h₁ } := by
    refine comp_coreD (knd := knd) (CellsAt ((ca (s₂.heap.objs.size + 1 + 1)).map (·.2))) (hCP := fun _ h => h.1) (s := { s₂ with heap := h₁ }) (g := hideAll s₂.heap wr) (C := s₂.heap.objs.size + 1) (ca := (ca (s₂.heap.objs.size + 1 + 1)).map (·.2)) (u₀ := fun _ => none) (cs₀ := cs) (od₀ := { cls := .type "dict", dict := none, data := .dict #[] }) T hsz (fun b hb hbw => ?_) (fun b hb => ⟨hideAll_none _ hb, ?_, ?_, ?_⟩) (Nat.ne_of_lt (Nat.lt_succ_self _)) (fun hm => ?_) (T.frame _ _ _ st fun b _ o e => old b o e) ⟨hns, fun b o e => old b o (of_hideAll _ e), by rw [hideAll_size]; exact Nat.le_succ _⟩ (fun p hp => ?_) hca1 hDd P hp
      (fun i v tu u X cs ys od tl h tk E' h1 h2 h3 h4 h5 h6 => turn _ _ _ i v tu u X cs ys od tl h tk E' rfl rfl rfl h1 h2 h3 h4 h5 fun p hp => hwrlt _ (h6 p hp)) ?_
    · obtain ⟨o, ho⟩ := hlive b hb
      exact ⟨o, hide_get hbw ho⟩
    · have := hwrlt b hb; exact Nat.ne_of_lt (Nat.lt_succ_of_lt this)
    · have := hwrlt b hb; exact Nat.ne_of_lt this
    · intro hm; have h1 := hwrlt b hb; have h2 := hcalt b hm; exact absurd (Nat.lt_trans h1 (Nat.lt_of_succ_lt h2)) (Nat.lt_irrefl _)
    · have := hcalt _ hm; exact absurd (Nat.lt_of_succ_lt this) (Nat.lt_irrefl _)
    · rcases List.mem_cons.mp hp with rfl | hp
      · exact ⟨hD, Nat.ne_of_lt (Nat.lt_succ_self _), fresh _ (Nat.le_refl _)⟩
      · exact ⟨(hcs p hp).1, Nat.ne_of_gt (hcs p hp).2, fresh _ (Nat.le_of_lt (Nat.lt_of_succ_lt (hcs p hp).2))⟩
    · intro ys od tl h tk u hP hoff hdo hF hN
      have htl : ∀ p ∈ tl, p.1 ∉ wr := fun p hp hm => hoff p hp (.tail _ (List.mem_append_right _ hm))
      have keep : ∀ b o, b ∉ wr → s₂.heap.get? b = some o → h.get? b = some o := fun b o hb e => hF.keep b o (hide_get hb e)
      have hCn : s₂.heap.get? (s₂.heap.objs.size + 1) = none := Heap.get?_none_of_le (Nat.le_succ _)
      refine hRR _ _ h tk ys tl u (Nat.ne_of_gt (Nat.lt_succ_self _)) hCn hF.ns (Heap.get?_none_of_le (Nat.le_refl _)) (fun h' tk' hk' => ?_) keep
      have hD := hN _ (.head _)
      have nlo : ∀ b, s₂.heap.get? b = none → b ∉ lo := fun b hb hm => by obtain ⟨o, ho⟩ := hlo b hm; rw [hb] at ho; cases ho
      refine done _ ys tl h' tk' hP (Heap.get?_none_of_le (Nat.le_refl _)) (fun b o hb hb' e => hk' b o (fun hbC => by rw [hbC, hCn] at e; cases e) hb' (keep b o hb e)) (hdo.at fun o e => hk' _ _ hD.2.1 (nlo _ (Heap.get?_none_of_le (Nat.le_refl _))) e) fun p hp => ?_
      have h1 := hN p (.tail _ hp)
      have h2 : s₂.heap.get? p.1 = none := by
        cases e : s₂.heap.get? p.1 with
        | none => rfl
        | some o => rw [hide_get (htl p hp) e] at h1; cases h1.2.2
      exact ⟨hk' _ _ h1.2.1 (nlo _ h2) h1.1, h2, fun e => hoff p hp (e ▸ .head _)⟩
  exact codeAny_compStart_dict loop (T.self 0 _ _ _ (T.frame _ _ _ st fun b _ o e => old b o e) loop)

theorem DictComp_own {K : Type} [DecidableEq K] {knd : KeyKind prog w K} {kx vx iter target : Expr} {ifs : List Expr} {scope : Scope} {cl : List (Str × Addr)} {ca : Nat → List (Str × Addr)} {pos : Pos} {Q : Value → Shared → Prop}
    (hclos : closureFor scope env = pure cl) (hkind : scope.kind = .function) (hnames : ∀ x ∈ scope.names, x.2 = .local → scope.names.lookup x.1 = some .local) (hca : ∀ n, cellsFrom n scope.names cl = ca n ++ cl) (hca0 : ∀ n, cellsFrom n scope.names [] = ca n)
    (h : wpAny (model prog w) A (eval iter env) (fun xv s₁ => wpAny (model prog w) A (pyIter xv) (fun it s₂ => ∃ I fp wr n PI St P, CompAtD knd A env cl ca target kx vx ifs scope [] (fun D tl ys h tk => Q (.ref D) { s₂ with heap := h, toks := tk }) it s₂ I fp wr n PI St P) E s₁) E s)
    (hs : ∀ x, foldedSetIterable iter env x = pure x := by intro _; with_unfolding_all rfl) :
    wpAny (model prog w) A (eval (.DictComp kx vx [⟨target, iter, ifs, 0⟩] scope pos) env) Q E s := by
  rw [arm_eval_DictComp]
  refine wpAny_comprehension_free (use := none) rfl hs hclos hkind hnames (wpAny_mono h (fun xv s₁ h₁ => wpAny_mono h₁ (fun it s₂ h₂ => ?_) fun _ _ e => e) fun _ _ e => e)
  obtain ⟨I, fp, wr, n, PI, St, P, H⟩ := h₂
  refine comp_blockD H (RR := fun acc C => compPost (model prog w) A E none Q acc C) hca hca0 (fun _ h => nomatch h) ?_
  intro D C h tk ys tl m hCD hC hn hD hQ hk
  exact ⟨m, hn, fun h' hs' => hQ h' tk fun b o hb _ e => hs'.extBut b o hb e⟩

end

end
section
/-- the walk begins anew -/
theorem anewQ8 {M : Model} {A : Around} {E : Value → Shared → Prop} {Q : Value → Shared → Prop} {s : Shared} {env : Env} (h : ∀ v s', Q v s') : wpAny M A (eval (.Constant (.int 0) 0 ⟨0, 0, 0, 0⟩) env) Q E s := by
  w_top off
  first
    | (walk1; exact h _ _)
    | exact wpAny_Constant_int (h _ _)
section
variable {prog : Program} {w : World} {A : Around} {E : Value → Shared → Prop} {s s₂ : Shared} {env : Env}
theorem comp_atD {K : Type} [DecidableEq K] {knd : KeyKind prog w K} {cl : List (Str × Addr)} {ca : Nat → List (Str × Addr)} {target kx vx : Expr} {ifs : List Expr} {scope : Scope} {lo : List Addr} {Qd : Addr → List (Addr × Obj) → List (K × Value) → Heap → Nat → Prop} {it : Value}
    {n : Nat} {PI : Nat → Value → List (Addr × Obj) → Prop} {I : Addr} {fp wr : List Addr} {St : Nat → Heap → Prop} (H : Itr prog w A target s s₂ it n PI I fp wr St) (hsz : n ≤ sizeLine)
    (P : Nat → List (K × Value) → List (Addr × Obj) → Prop) (init : P 0 [] [])
    (turn : ∀ D C g wr i v tu u X cs ys od tl h tk (E : Value → Shared → Prop), Ext s.heap g → C = D + 1 → i < n → PI i v tu → P i ys tl → Off (D :: ((ca (C + 1)).map (·.2) ++ wr)) tl → (∀ b ∈ wr, ∃ o, (b, o) ∈ X) → (∀ p ∈ X, p.1 < D) → CellsAt ((ca (C + 1)).map (·.2)) cs → ys.length ≤ i → Fr g C h u → News g C h ((D, od) :: (cs ++ (tl ++ (tu ++ X)))) →
      wpAny (model prog w) A (assign target (compEnvC scope (ca (C + 1) ++ cl) C env) v) (fun _ s₂' =>
        wpAny (model prog w) A (forIn ifs true fun c r => if r = true then do let ok ← isTrue c (compEnvC scope (ca (C + 1) ++ cl) C env) (eval c (compEnvC scope (ca (C + 1) ++ cl) C env)); pure (ForInStep.yield ok) else pure (ForInStep.yield r)) (fun ok s₃ =>
          if ok = true then wpAny (model prog w) A (eval kx (compEnvC scope (ca (C + 1) ++ cl) C env)) (fun kv s₄ => wpAny (model prog w) A (eval vx (compEnvC scope (ca (C + 1) ++ cl) C env)) (fun vv s₅ => ∃ key, knd.is key kv = true ∧ EndD (CellsAt ((ca (C + 1)).map (·.2))) g C D od ((ca (C + 1)).map (·.2)) wr X (P (i + 1) (stored ys key vv)) { s with heap := h, toks := tk } s₅) E s₄) E s₃
          else EndD (CellsAt ((ca (C + 1)).map (·.2))) g C D od ((ca (C + 1)).map (·.2)) wr X (P (i + 1) ys) { s with heap := h, toks := tk } s₃) E s₂') E { s with heap := h, toks := tk })
    (done : ∀ D ys tl h tk, P n ys tl → s.heap.get? D = none → (∀ b o, b ∉ lo → s.heap.get? b = some o → h.get? b = some o) → h.DictOf knd D ys → (∀ p ∈ tl, h.get? p.1 = some p.2 ∧ s.heap.get? p.1 = none ∧ p.1 ≠ D) → Qd D tl ys h tk) :
    CompAtD knd A env cl ca target kx vx ifs scope lo Qd it s₂ I fp wr n PI St P := by
  obtain ⟨rfl, T, sub, live, st, ext, ⟨hs, tks, rfl⟩, fresh⟩ := H
  have none_of : ∀ a, hs.get? a = none → s.heap.get? a = none := fun a ha => by
    cases e : s.heap.get? a with
    | none => rfl
    | some o => rw [ext _ _ e] at ha; cases ha
  have hw : ∀ b o, s.heap.get? b = some o → b ∉ wr := fun b o e hb => by rw [fresh b hb] at e; cases e
  refine ⟨rfl, T, hsz, sub, live, st, init, ?_, ?_⟩
  · rintro D C g i v tu u X cs ys od tl h tk E' hD hC rfl hi hPI hP hoff hX hX2 hc hlen F N
    exact turn D C _ wr i v tu u X cs ys od tl h tk E' (fun b o e => hide_get (hw b o e) (ext _ _ e)) hC hi hPI hP hoff hX hX2 hc hlen F N
  · intro D ys tl h tk hP hD hk hl htl
    refine done D ys tl h tk hP (none_of _ hD) (fun b o hb e => hk b o (hw b o e) hb (ext _ _ e)) hl fun p hp => ?_
    obtain ⟨h1, h2, h3⟩ := htl p hp
    exact ⟨h1, none_of _ h2, h3⟩
end

end
section
/-- the walk begins anew -/
theorem anewQ9 {M : Model} {A : Around} {E : Value → Shared → Prop} {Q : Value → Shared → Prop} {s : Shared} {env : Env} (h : ∀ v s', Q v s') : wpAny M A (eval (.Constant (.int 0) 0 ⟨0, 0, 0, 0⟩) env) Q E s := by
  w_top off
  first
    | (walk1; exact h _ _)
    | exact wpAny_Constant_int (h _ _)
section
variable {prog : Program} {w : World} {A : Around} {E : Value → Shared → Prop} {s : Shared} {h₀ : Heap} {m : Str → Option Value} {scope : Scope} {cl : List (Str × Addr)} {C c T : Addr} {env : Env} {a b : Str} {pa pb tp : Pos} {kk : Nat} {x y : Value} {news : List (Addr × Obj)}
theorem assignC_TLL {Q : Unit → Shared → Prop} (hh : A.handled = none) (hk : scope.kind = .function) (ha : (compEnvC scope cl C env).kindOf a = some .local) (hb : (compEnvC scope cl C env).kindOf b = some .local) (F : Fr h₀ C s.heap m) (N : News h₀ C s.heap news) (hT : IsTup s.heap T #[x, y])
    (h : ∀ h' tk', Fr h₀ C h' (fun z => if z = b then some y else if z = a then some x else m z) → News h₀ C h' news → Q () { s with heap := h', toks := tk' }) :
    wpAny (model prog w) A (assign (.Tuple [.Name a pa, .Name b pb] kk tp) (compEnvC scope cl C env) (.ref T)) Q E s := by
  refine unpackN_ F N hT hh rfl rfl fun h₁ F₁ N₁ => ?_
  show wpAny _ _ (assignInOrder [assign (.Name a pa) (compEnvC scope cl C env), assign (.Name b pb) (compEnvC scope cl C env)] [x, y]) _ _ _
  refine assignInOrder_cons ?_
  refine assignC_L hk ha F₁ N₁ fun h₂ tk₂ F₂ N₂ => ?_
  refine assignInOrder_cons ?_
  refine assignC_L hk hb F₂ N₂ fun h₃ tk₃ F₃ N₃ => ?_
  exact assignInOrder_nil (h h₃ tk₃ F₃ N₃)
theorem assignC_LLL {Q : Unit → Shared → Prop} (hh : A.handled = none) (hk : scope.kind = .function) (ha : (compEnvC scope cl C env).kindOf a = some .local) (hb : (compEnvC scope cl C env).kindOf b = some .local) (F : Fr h₀ C s.heap m) (N : News h₀ C s.heap news) (hT : s.heap.IsList T #[x, y])
    (h : ∀ h' tk', Fr h₀ C h' (fun z => if z = b then some y else if z = a then some x else m z) → News h₀ C h' news → Q () { s with heap := h', toks := tk' }) :
    wpAny (model prog w) A (assign (.Tuple [.Name a pa, .Name b pb] kk tp) (compEnvC scope cl C env) (.ref T)) Q E s := by
  refine kun_list F N hT hh rfl rfl fun h₁ F₁ N₁ => ?_
  show wpAny _ _ (assignInOrder [assign (.Name a pa) (compEnvC scope cl C env), assign (.Name b pb) (compEnvC scope cl C env)] [x, y]) _ _ _
  refine assignInOrder_cons ?_
  refine assignC_L hk ha F₁ N₁ fun h₂ tk₂ F₂ N₂ => ?_
  refine assignInOrder_cons ?_
  refine assignC_L hk hb F₂ N₂ fun h₃ tk₃ F₃ N₃ => ?_
  exact assignInOrder_nil (h h₃ tk₃ F₃ N₃)
theorem assignC_TCL {Q : Unit → Shared → Prop} {D : Addr} {od o : Obj} {rest : List (Addr × Obj)} {v₀ : Option Value} (hh : A.handled = none) (hk : scope.kind = .function) (ha : (compEnvC scope cl C env).kindOf a = some .cell) (hc : cl.lookup a = some c) (hb : (compEnvC scope cl C env).kindOf b = some .local)
    (F : Fr h₀ C s.heap m) (N : News h₀ C s.heap ((D, od) :: (c, o) :: rest)) (hd : o.data = .cell v₀) (hDc : D ≠ c) (hr : ∀ p ∈ rest, p.1 ≠ c) (hT : IsTup s.heap T #[x, y])
    (h : ∀ h' tk' o', Fr h₀ C h' (fun z => if z = b then some y else m z) → News h₀ C h' ((D, od) :: (c, o') :: rest) → o'.data = .cell (some x) → Q () { s with heap := h', toks := tk' }) :
    wpAny (model prog w) A (assign (.Tuple [.Name a pa, .Name b pb] kk tp) (compEnvC scope cl C env) (.ref T)) Q E s := by
  refine unpackN_ F N hT hh rfl rfl fun h₁ F₁ N₁ => ?_
  show wpAny _ _ (assignInOrder [assign (.Name a pa) (compEnvC scope cl C env), assign (.Name b pb) (compEnvC scope cl C env)] [x, y]) _ _ _
  refine assignInOrder_cons ?_
  refine assignC_C hk ha hc F₁ N₁ hd hDc hr fun h₂ o' F₂ N₂ hd' => ?_
  refine assignInOrder_cons ?_
  refine assignC_L hk hb F₂ N₂ fun h₃ tk₃ F₃ N₃ => ?_
  exact assignInOrder_nil (h h₃ tk₃ o' F₃ N₃ hd')
end

end
section
/-- the walk begins anew -/
theorem anewQ12 {M : Model} {A : Around} {E : Value → Shared → Prop} {Q : Value → Shared → Prop} {s : Shared} {env : Env} (h : ∀ v s', Q v s') : wpAny M A (eval (.Constant (.int 0) 0 ⟨0, 0, 0, 0⟩) env) Q E s := by
  w_top off
  first
    | (walk1; exact h _ _)
    | exact wpAny_Constant_int (h _ _)
section
variable {prog : Program} {w : World} {A : Around} {E : Value → Shared → Prop} {R : Result → Shared → Prop} {s : Shared}
/-- a clause's turn, with any work behind its tests -/
def turnOf (e : Expr) (depth : Nat) (target iter : Expr) (ifs : List Expr) (it acc : Value) (env : Env) (act : Sem Fin) : Sem Fin := do
  standAt iter.pos
  match ← pyNext it with
  | none => pure (.done .next)
  | some v =>
    letOwnedTupleGo target it v
    assign target env v
    let mut ok := true
    for c in ifs do
      if ok then ok ← isTrue c env (eval c env)
    if ok then
      act
    else again (.compLoop e depth it acc env)
def emit1 (e elt : Expr) (depth : Nat) (it acc : Value) (env : Env) : Sem Fin := do
  (do let _ ← call (.builtin "list.append") [acc, ← eval elt env])
  again (.compLoop e depth it acc env)
def emit0 (e iter : Expr) (it acc : Value) (env : Env) : Sem Fin := do
  let x ← eval iter env
  standAt iter.pos
  let x ← foldedSetIterable iter env x
  let _ ← runOwn (.compStart e 1 (← holding [x] (pyIter x)) acc env) env
  again (.compLoop e 0 it acc env)
theorem turn_0 (elt t0 i0 t1 i1 : Expr) (f0 f1 : List Expr) (scope : Scope) (pos : Pos) (it acc : Value) (env : Env) :
    compTurn (.ListComp elt [⟨t0, i0, f0, 0⟩, ⟨t1, i1, f1, 0⟩] scope pos) 0 it acc env = turnOf (.ListComp elt [⟨t0, i0, f0, 0⟩, ⟨t1, i1, f1, 0⟩] scope pos) 0 t0 i0 f0 it acc env (emit0 (.ListComp elt [⟨t0, i0, f0, 0⟩, ⟨t1, i1, f1, 0⟩] scope pos) i1 it acc env) := by rfl
theorem turn_1 (elt t0 i0 t1 i1 : Expr) (f0 f1 : List Expr) (scope : Scope) (pos : Pos) (it acc : Value) (env : Env) :
    compTurn (.ListComp elt [⟨t0, i0, f0, 0⟩, ⟨t1, i1, f1, 0⟩] scope pos) 1 it acc env = turnOf (.ListComp elt [⟨t0, i0, f0, 0⟩, ⟨t1, i1, f1, 0⟩] scope pos) 1 t1 i1 f1 it acc env (emit1 (.ListComp elt [⟨t0, i0, f0, 0⟩, ⟨t1, i1, f1, 0⟩] scope pos) elt 1 it acc env) := by rfl
theorem turn_S (elt t0 i0 : Expr) (f0 : List Expr) (scope : Scope) (pos : Pos) (it acc : Value) (env : Env) :
    compTurn (.ListComp elt [⟨t0, i0, f0, 0⟩] scope pos) 0 it acc env = turnOf (.ListComp elt [⟨t0, i0, f0, 0⟩] scope pos) 0 t0 i0 f0 it acc env (emit1 (.ListComp elt [⟨t0, i0, f0, 0⟩] scope pos) elt 0 it acc env) := by rfl
theorem loopE {e target iter : Expr} {depth : Nat} {ifs : List Expr} {it acc : Value} {env : Env} {act : Sem Fin} (he : compTurn e depth it acc env = turnOf e depth target iter ifs it acc env act) (hq : (Code.compLoop e depth it acc env).quiet = true) (hf : (Code.compLoop e depth it acc env).isFrame = false) (I : Nat → Shared → Prop)
    (turn : ∀ n s, I n s → wpAny (model prog w) A (pyNext it) (fun r s₁ => match r with
      | none => R (.ok .next) s₁
      | some v => wpAny (model prog w) A (letOwnedTupleGo target it v) (fun _ s₁' => wpAny (model prog w) A (assign target env v) (fun _ s₂ =>
          wpAny (model prog w) A (forIn ifs true fun c r => if r = true then do let ok ← isTrue c env (eval c env); pure (ForInStep.yield ok) else pure (ForInStep.yield r)) (fun ok s₃ =>
            if ok = true then wpAny (model prog w) A act (fun fin s₅ => fin = .again (.compLoop e depth it acc env) ∧ ∃ m, m < n ∧ I m s₅) (notedBy (model prog w) A env fun e s' => R (.error e) s') s₃
            else ∃ m, m < n ∧ I m s₃) (notedBy (model prog w) A env fun e s' => R (.error e) s') s₂) (notedBy (model prog w) A env fun e s' => R (.error e) s') s₁') (notedBy (model prog w) A env fun e s' => R (.error e) s') s₁) (notedBy (model prog w) A env fun e s' => R (.error e) s') s)
    (n : Nat) (h : I n s) (hu : A.under (.compLoop e depth it acc env) = A := by rfl) : codeAny (model prog w) A (.compLoop e depth it acc env) R s := by
  refine codeAny_loop hq I (fun n s hI => ?_) n h
  rw [hu]
  have hden : (model prog w).den (.compLoop e depth it acc env) = (compTurn e depth it acc env).onRaise (fun x => do noteFrame x env; theTreesLotGoes x) := by
    show (if (Code.compLoop e depth it acc env).isFrame then _ else _) = _
    rw [hf]
    rfl
  rw [hden]
  refine wpAny_noted ?_
  rw [he]
  unfold turnOf
  refine wpAny_bind (wpAny_standAt (wpAny_bind (wpAny_mono (turn n s hI) (fun r s₁ h₁ => ?_) fun _ _ h' => h')))
  cases r with
  | none => exact wpAny_pure h₁
  | some v =>
    refine wpAny_bind (wpAny_mono h₁ (fun _ s₁' h₁' => ?_) fun _ _ h' => h')
    refine wpAny_bind (wpAny_mono h₁' (fun _ s₂ h₂ => wpAny_bind (wpAny_mono h₂ (fun ok s₃ h₃ => ?_) fun _ _ h' => h')) fun _ _ h' => h')
    cases ok with
    | false => exact wpAny_pure ⟨rfl, h₃⟩
    | true => exact wpAny_mono h₃ (fun fin s₅ h₅ => by rw [h₅.1]; exact ⟨rfl, h₅.2⟩) fun _ _ h' => h'
/-- what a clause's turn leaves -/
def EndE (U : (Str → Option Value) → Prop) (g : Heap) (C D : Addr) (wr : List Addr) (X : List (Addr × Obj)) (P : List Value → List (Addr × Obj) → Prop) (s s₃ : Shared) : Prop :=
  ∃ h' tk' m' ys' k' tl' news', s₃ = { s with heap := h', toks := tk' } ∧ Fr g C h' m' ∧ News g C h' news' ∧ (∀ p ∈ (D, listOf ys'.toArray k') :: (tl' ++ X), p ∈ news') ∧ U m' ∧ Off (D :: wr) tl' ∧ P ys' tl'
theorem comp_coreE (U : (Str → Option Value) → Prop) {e target iter : Expr} {depth : Nat} {ifs : List Expr} {I D C : Addr} {cenv : Env} {act : Sem Fin} {fp wr : List Addr} {n : Nat} {PI : Nat → Value → List (Addr × Obj) → Prop} {St : Nat → Heap → Prop} {g : Heap} {u₀ : Str → Option Value} {tl₀ : List (Addr × Obj)} {ys₀ : List Value} {k₀ : Nat}
    (he : compTurn e depth (.ref I) (.ref D) cenv = turnOf e depth target iter ifs (.ref I) (.ref D) cenv act) (hq : (Code.compLoop e depth (.ref I) (.ref D) cenv).quiet = true) (hf : (Code.compLoop e depth (.ref I) (.ref D) cenv).isFrame = false)
    (T : Drw prog w A target I fp wr n PI St) (hfp : ∀ b ∈ fp, b ∉ wr → ∃ o, g.get? b = some o) (hwr : ∀ b ∈ wr, g.get? b = none ∧ b ≠ C ∧ b ≠ D) (hDC : D ≠ C)
    (st : St 0 s.heap) (F : Fr g C s.heap u₀) (N : News g C s.heap ((D, listOf ys₀.toArray k₀) :: tl₀)) (hoff₀ : Off (D :: wr) tl₀) (hU : U u₀)
    (P : Nat → List Value → List (Addr × Obj) → Prop) (hp : P 0 ys₀ tl₀)
    (turn : ∀ i v tu u X ys k tl h tk (E : Value → Shared → Prop), i < n → PI i v tu → P i ys tl → Off (D :: wr) tl → (∀ b ∈ wr, ∃ o, (b, o) ∈ X) → (∀ p ∈ X, p.1 ∈ wr) → U u → Fr g C h u → News g C h ((D, listOf ys.toArray k) :: (tl ++ (tu ++ X))) →
      wpAny (model prog w) A (assign target cenv v) (fun _ s₂ =>
        wpAny (model prog w) A (forIn ifs true fun c r => if r = true then do let ok ← isTrue c cenv (eval c cenv); pure (ForInStep.yield ok) else pure (ForInStep.yield r)) (fun ok s₃ =>
          if ok = true then wpAny (model prog w) A act (fun fin s₄ => fin = .again (.compLoop e depth (.ref I) (.ref D) cenv) ∧ EndE U g C D wr X (P (i + 1)) s s₄) E s₃
          else EndE U g C D wr X (P (i + 1)) s s₃) E s₂) E { s with heap := h, toks := tk })
    (done : ∀ ys k tl h tk u, P n ys tl → Off (D :: wr) tl → U u → Fr g C h u → News g C h ((D, listOf ys.toArray k) :: tl) → (∀ b o, b ∉ wr → s.heap.get? b = some o → (∃ o', g.get? b = some o') → h.get? b = some o) → R (.ok .next) { s with heap := h, toks := tk })
    (hu : A.under (.compLoop e depth (.ref I) (.ref D) cenv) = A := by rfl) :
    codeAny (model prog w) A (.compLoop e depth (.ref I) (.ref D) cenv) R s := by
  refine loopE he hq hf (fun m s' => ∃ i h tk ys k tl u, s' = { s with heap := h, toks := tk } ∧ m = n - i ∧ i ≤ n ∧ St i h ∧ P i ys tl ∧ Off (D :: wr) tl ∧ U u ∧ Fr g C h u ∧ News g C h ((D, listOf ys.toArray k) :: tl)) ?_ n
    ⟨0, s.heap, s.toks, ys₀, k₀, tl₀, u₀, rfl, rfl, Nat.zero_le _, st, hp, hoff₀, hU, F, N⟩ hu
  rintro m s' ⟨i, h, tk, ys, k, tl, u, rfl, rfl, hin, hst, hP, hoff, hUu, hF, hN⟩
  have hDw : D ∉ wr := fun hm => (hwr D hm).2.2 rfl
  have hCw : C ∉ wr := fun hm => (hwr C hm).2.1 rfl
  have htw : ∀ p ∈ tl, p.1 ∉ wr := fun p hp hm => hoff p hp (.tail _ hm)
  by_cases hi : i < n
  · refine T.step' hi hst (fun v tu h' tk' hPI hst' htu hk => ?_)
    have hX : ∀ b ∈ wr, ∃ o, (b, o) ∈ objsAt h' wr := fun b hb => by obtain ⟨o, ho⟩ := T.live _ _ hst' b hb; exact ⟨o, mem_objsAt.mpr ⟨hb, ho⟩⟩
    have hF' : Fr g C h' u := ⟨hF.ns.at' fun o e => hk _ o hCw e, fun b o e => hk b o (fun hm => by rw [(hwr b hm).1] at e; cases e) (hF.keep b o e), hF.above⟩
    have hN' : News g C h' ((D, listOf ys.toArray k) :: (tl ++ (tu ++ objsAt h' wr))) := fun p hp => by
      have old : p.1 ∉ wr → p ∈ (D, listOf ys.toArray k) :: tl → h'.get? p.1 = some p.2 ∧ p.1 ≠ C ∧ g.get? p.1 = none := fun hw hm => ⟨hk _ _ hw (hN p hm).1, (hN p hm).2⟩
      rcases List.mem_cons.mp hp with rfl | hp
      · exact old hDw (.head _)
      · rcases List.mem_append.mp hp with hp | hp
        · exact old (htw p hp) (.tail _ hp)
        · rcases List.mem_append.mp hp with hp | hp
          · obtain ⟨h1, h2⟩ := htu p hp
            have h2 : h.get? p.1 = none := h2
            refine ⟨h1, fun e => ?_, ?_⟩
            · obtain ⟨o, _, _, ho, _⟩ := hF.ns
              rw [e, ho] at h2; cases h2
            · cases e : g.get? p.1 with
              | none => rfl
              | some o => rw [hF.keep _ _ e] at h2; cases h2
          · obtain ⟨h1, h2⟩ := mem_objsAt.mp hp
            exact ⟨h2, (hwr _ h1).2.1, (hwr _ h1).1⟩
    have stay : ∀ {h₃ : Heap} {m₃ : Str → Option Value} {news' : List (Addr × Obj)}, Fr g C h₃ m₃ → News g C h₃ news' → (∀ p ∈ objsAt h' wr, p ∈ news') → St (i + 1) h₃ := fun {h₃ m₃ news'} hF₃ hN₃ hsub => by
      refine T.frame _ _ _ hst' fun b hb o e => ?_
      by_cases hbw : b ∈ wr
      · exact (hN₃ (b, o) (hsub _ (mem_objsAt.mpr ⟨hbw, e⟩))).1
      · obtain ⟨o', ho'⟩ := hfp b hb hbw
        have := hF'.keep _ _ ho'
        rw [this] at e
        cases e
        exact hF₃.keep _ _ ho'
    have fin : ∀ s₃, EndE U g C D wr (objsAt h' wr) (P (i + 1)) s s₃ → ∃ m, m < n - i ∧ ∃ i' h tk ys k tl u, s₃ = { s with heap := h, toks := tk } ∧ m = n - i' ∧ i' ≤ n ∧ St i' h ∧ P i' ys tl ∧ Off (D :: wr) tl ∧ U u ∧ Fr g C h u ∧ News g C h ((D, listOf ys.toArray k) :: tl) := by
      rintro s₃ ⟨h₃, tk₃, m₃, ys', k', tl', news', rfl, hF₃, hN₃, hsub, hU', ho', hP'⟩
      refine ⟨n - (i + 1), by omega, i + 1, h₃, tk₃, ys', k', tl', m₃, rfl, rfl, hi, stay hF₃ hN₃ (fun p hp => hsub p (.tail _ (List.mem_append_right _ hp))), hP', ho', hU', hF₃, fun p hp => hN₃ p (hsub p ?_)⟩
      rcases List.mem_cons.mp hp with rfl | hp
      · exact .head _
      · exact .tail _ (List.mem_append_left _ hp)
    refine wpAny_mono (turn i v tu u (objsAt h' wr) ys k tl h' tk' _ hi hPI hP hoff hX (fun p hp => (mem_objsAt.mp hp).1) hUu hF' hN') (fun _ s₂ h₂ => wpAny_mono h₂ (fun ok s₃ h₃ => ?_) fun _ _ e => e) fun _ _ e => e
    cases ok with
    | false =>
      simp only [Bool.false_eq_true, if_false] at h₃ ⊢
      exact fin _ h₃
    | true =>
      simp only [if_true] at h₃ ⊢
      exact wpAny_mono h₃ (fun f s₄ h₄ => ⟨h₄.1, fin _ h₄.2⟩) fun _ _ e => e
  · have e : i = n := by omega
    subst e
    refine T.done _ _ _ hst fun h' tk' hk => ?_
    refine done ys k tl h' tk' u hP hoff hUu ⟨hF.ns.at' fun o e => hk _ o hCw e, fun b o e => hk b o (fun hm => by rw [(hwr b hm).1] at e; cases e) (hF.keep b o e), hF.above⟩ (fun p hp => ?_) fun b o hb e hg => ?_
    · rcases List.mem_cons.mp hp with rfl | hp
      · exact ⟨hk _ _ hDw (hN _ (.head _)).1, (hN _ (.head _)).2⟩
      · exact ⟨hk _ _ (htw p hp) (hN p (.tail _ hp)).1, (hN p (.tail _ hp)).2⟩
    · obtain ⟨o', ho'⟩ := hg
      have := F.keep _ _ ho'
      rw [e] at this
      cases this
      exact hk _ _ hb (hF.keep _ _ ho')
end

end
section
/-- the walk begins anew -/
theorem anewQ13 {M : Model} {A : Around} {E : Value → Shared → Prop} {Q : Value → Shared → Prop} {s : Shared} {env : Env} (h : ∀ v s', Q v s') : wpAny M A (eval (.Constant (.int 0) 0 ⟨0, 0, 0, 0⟩) env) Q E s := by
  w_top off
  first
    | (walk1; exact h _ _)
    | exact wpAny_Constant_int (h _ _)
section
variable {prog : Program} {w : World} {A : Around} {E : Value → Shared → Prop} {R : Result → Shared → Prop} {s : Shared} {env : Env}
theorem iter_listT {elts : List Expr} {kk : Nat} {pos : Pos} {s : Shared} {l : Addr} {vs : List Value} {nn : Nat} {G : Value → Shared → Prop} (hh : A.handled = none) (hrefs : ∀ v ∈ vs, ∃ T, v = Value.ref T) (hl : s.heap.get? l = some (listOf vs.toArray nn))
    (h : ∀ I fp wr St s₂, Itr prog w A (.Tuple elts kk pos) s s₂ (.ref I) vs.length (fun (i : Nat) (v : Value) (tu : List (Addr × Obj)) => vs[i]? = some v ∧ tu = []) I fp wr St → (∀ b ∈ fp, b ∈ wr ∨ b = l) → G (.ref I) s₂) : wpAny (model prog w) A (pyIter (.ref l)) G E s := by
  have hls : s.heap.IsList l vs.toArray := ⟨_, hl, rfl, nn, rfl⟩
  have hne : l ≠ s.heap.objs.size := Nat.ne_of_lt (Heap.lt_size hl)
  refine wpAny_pyIter_list hls ?_
  have W := Walks.list (prog := prog) (w := w) hh s.heap.objs.size l hne vs.toArray
  have hlen : vs.toArray.size = vs.length := by simp
  have T : Drw prog w A (.Tuple elts kk pos) s.heap.objs.size [s.heap.objs.size, l] [s.heap.objs.size] vs.length (fun (i : Nat) (v : Value) (tu : List (Addr × Obj)) => vs[i]? = some v ∧ tu = []) (fun i h => h.IsListIter s.heap.objs.size l i ∧ h.IsList l vs.toArray) := by
    refine ⟨W.frame, fun i h st b hb => ?_, fun i s' Q E hi st k => ?_, fun s' Q E st k => W.done s' Q E (by rw [hlen]; exact st) k, W.self⟩
    · obtain ⟨⟨o, ho, _⟩, _⟩ := id st
      exact ⟨o, by rw [List.mem_singleton.mp hb]; exact ho⟩
    · refine W.item i s' _ E (by rw [hlen]; exact hi) st fun v h' tk hP st' hk => ?_
      have hP' : vs[i]? = some v := by simpa using hP
      obtain ⟨T, rfl⟩ := hrefs v (List.mem_of_getElem? hP')
      exact wpAny_letOwnedTupleGo_listiter st'.1 (k (.ref T) [] h' tk ⟨hP', rfl⟩ st' (fun _ h => nomatch h) hk)
  refine h _ _ _ _ _ ⟨rfl, T, fun b hb => by rw [List.mem_singleton.mp hb]; exact .head _, fun b hb => ?_, ⟨⟨_, Heap.get?_push_size _ rfl, rfl, rfl⟩, hls.at fun o e => Heap.get?_push_of_some _ e⟩, fun b o e => Heap.get?_push_of_some _ e, ⟨_, _, rfl⟩, fun b hb => ?_⟩ (fun b hb => by
    rcases List.mem_cons.mp hb with rfl | hb
    · exact .inl (.head _)
    · exact .inr (List.mem_singleton.mp hb))
  · rcases List.mem_cons.mp hb with rfl | hb
    · exact ⟨_, Heap.get?_push_size _ rfl⟩
    · rw [List.mem_singleton.mp hb]; exact ⟨_, Heap.get?_push_of_some _ hl⟩
  · rw [List.mem_singleton.mp hb]; exact Heap.get?_none_of_le (Nat.le_refl _)
theorem iter_rangeF {target : Expr} {n : Nat} {t : Tok} {G : Value → Shared → Prop} (hh : A.handled = none) (ht : ∀ I v, letOwnedTupleGo target (.ref I) v = pure ()) (hn : n ≤ 1000)
    (h : ∀ I fp wr St s₂, Itr prog w A target s s₂ (.ref I) n (fun (i : Nat) (v : Value) (tu : List (Addr × Obj)) => (∃ t, v = .int (i : Int) t) ∧ tu = []) I fp wr St → (∀ b ∈ fp, b ∈ wr) → G (.ref I) s₂) : wpAny (model prog w) A (call (.type "range") [.int (n : Int) t]) (fun xv s₁ => wpAny (model prog w) A (pyIter xv) G E s₁) E s := by
  refine call_range_1 ?_
  refine wpAny_pyIter_range (IsRange.new ..) (small_one (by decide) (by decide) (by omega) (by omega)) ?_
  have hsz : Builtin.Range.rangeSize 0 (n : Int) 1 = (n : Int) := by rw [rangeSize_one]; split <;> omega
  have W := Walks.range (prog := prog) (w := w) hh (s.heap.push { cls := .type "range", data := .fields #[.int 0 s.toks, .int (n : Int) t, .int 1 (s.toks + 1)] }).objs.size 0 1 n
  have T := Drw.of (target := target) W (fun i h st b hb => by rw [List.mem_singleton.mp hb]; exact ⟨_, st⟩) (ht _)
  have e : (fun (i : Nat) (v : Value) (tu : List (Addr × Obj)) => (∃ t, v = Value.int (0 + (i : Nat) * 1) t) ∧ tu = []) = fun (i : Nat) (v : Value) (tu : List (Addr × Obj)) => (∃ t, v = .int (i : Int) t) ∧ tu = [] := by funext i v tu; simp
  rw [e] at T
  refine h _ _ _ _ _ ⟨rfl, T, fun b hb => hb, fun b hb => ?_, ?_, fun b o e => Heap.get?_push_of_some _ (Heap.get?_push_of_some _ e), ⟨_, _, rfl⟩, fun b hb => ?_⟩ (fun b hb => hb)
  · rw [List.mem_singleton.mp hb]; exact ⟨_, Heap.get?_push_size _ rfl⟩
  · have e1 : (0 + ((0 : Nat) : Int) * 1) = 0 := by simp
    have e2 : ((n : Int) - ((0 : Nat) : Int)) = Builtin.Range.rangeSize 0 (n : Int) 1 := by rw [hsz]; simp
    rw [e1, e2]
    exact Heap.get?_push_size _ rfl
  · rw [List.mem_singleton.mp hb]; exact Heap.get?_none_of_le (by rw [Heap.size_push]; exact Nat.le_succ _)
theorem emit1_rule {e elt : Expr} {depth : Nat} {it acc : Value} {Q : Fin → Shared → Prop} (h : wpAny (model prog w) A (eval elt env) (fun x s₄ => wpAny (model prog w) A (call (.builtin "list.append") [acc, x]) (fun _ s₅ => Q (.again (.compLoop e depth it acc env)) s₅) E s₄) E s) :
    wpAny (model prog w) A (emit1 e elt depth it acc env) Q E s := by
  unfold emit1
  exact wpAny_bind (wpAny_bind (wpAny_mono h (fun x s₄ h₄ => wpAny_bind (wpAny_mono h₄ (fun _ s₅ h₅ => wpAny_pure (wpAny_pure h₅)) fun _ _ h' => h')) fun _ _ h' => h'))
theorem emit0_rule {e iter : Expr} {it acc : Value} {Q : Fin → Shared → Prop} (hs : ∀ x, foldedSetIterable iter env x = pure x)
    (h : wpAny (model prog w) A (eval iter env) (fun x s₁ => wpAny (model prog w) A (pyIter x) (fun it2 s₂ => codeAny (model prog w) (A.mark none) (.compStart e 1 it2 acc env) (fun r s' => match r with | .ok f => Q (.again (.compLoop e 0 it acc env)) s' | .error x => cameBackBy (model prog w) A env E x s') s₂) E s₁) E s) :
    wpAny (model prog w) A (emit0 e iter it acc env) Q E s := by
  unfold emit0
  refine wpAny_bind (wpAny_mono h (fun x s₁ h₁ => wpAny_bind (wpAny_standAt (wpAny_bind (wpAny_of_eq (hs x) (wpAny_bind (wpAny_holding (wpAny_mono h₁ (fun it2 s₂ h₂ => ?_) fun _ _ h' => h'))))))) fun _ _ h' => h')
  exact wpAny_bind (wpAny_runOwn (codeAny_mono h₂ fun r s' hr => by
    cases r with
    | ok f => exact wpAny_pure hr
    | error x => exact hr))
theorem compStart_1 {elt t0 i0 t1 i1 : Expr} {f0 f1 : List Expr} {scope : Scope} {pos : Pos} {it acc : Value}
    (h0 : codeAny (model prog w) A (.compLoop (.ListComp elt [⟨t0, i0, f0, 0⟩, ⟨t1, i1, f1, 0⟩] scope pos) 1 it acc env) R s)
    (h : wpAny (model prog w) A (pyIter it) (fun it' s' => codeAny (model prog w) A (.compLoop (.ListComp elt [⟨t0, i0, f0, 0⟩, ⟨t1, i1, f1, 0⟩] scope pos) 1 it' acc env) R s')
      (notedBy (model prog w) A env fun x s' => R (.error x) s') s) :
    codeAny (model prog w) A (.compStart (.ListComp elt [⟨t0, i0, f0, 0⟩, ⟨t1, i1, f1, 0⟩] scope pos) 1 it acc env) R s := by
  refine codeAny_of_tree ?_
  show wpAny _ _ ((compStart (.ListComp elt [⟨t0, i0, f0, 0⟩, ⟨t1, i1, f1, 0⟩] scope pos) 1 it acc env).onRaise (fun x => do noteFrame x env; standAt theWindowsPlace)) _ _ s
  refine wpAny_notedAt ?_
  unfold compStart
  show wpAny _ _ (ask >>= _) _ _ s
  refine wpAny_bind (wpAny_askSetting (wpAny_ite ?_))
  split
  · first
      | exact wpAny_bind (wpAny_pure (wpAny_pure (And.intro rfl h0)))
      | exact wpAny_pure (And.intro rfl h0)
  · first
      | exact wpAny_bind (wpAny_rule (wpAny_bind (wpAny_standAt (wpAny_bind (wpAny_mono h (fun it' s' h' => wpAny_pure (And.intro rfl h')) fun _ _ x => x)))))
      | (refine wpAny_bind (wpAny_rule ?_); show wpAny _ _ (standAt i1.pos >>= _) _ _ s; exact wpAny_bind (wpAny_standAt (wpAny_bind (wpAny_mono h (fun it' s' h' => wpAny_pure (And.intro rfl h')) fun _ _ x => x))))
theorem compStart_1' {elt t0 i0 t1 i1 : Expr} {f0 f1 : List Expr} {scope : Scope} {pos : Pos} {acc : Value} {I : Addr} {fp wr : List Addr} {n : Nat} {PI : Nat → Value → List (Addr × Obj) → Prop} {St : Nat → Heap → Prop} (T : Drw prog w A t1 I fp wr n PI St) (st : St 0 s.heap)
    (loop : codeAny (model prog w) A (.compLoop (.ListComp elt [⟨t0, i0, f0, 0⟩, ⟨t1, i1, f1, 0⟩] scope pos) 1 (.ref I) acc env) R s) :
    codeAny (model prog w) (A.mark none) (.compStart (.ListComp elt [⟨t0, i0, f0, 0⟩, ⟨t1, i1, f1, 0⟩] scope pos) 1 (.ref I) acc env) R s :=
  compStart_1 (A := A) loop (T.self 0 _ _ _ st loop)
theorem Assign_gen_own {elt iter target : Expr} {y : Str} {py spos : Pos} {ifs : List Expr} {rest : List Comprehension} {scope : Scope} {cl : List (Str × Addr)} {pos : Pos} {Q : Flow → Shared → Prop}
    (hsw : swapsWith (.ListComp elt (⟨target, iter, ifs, 0⟩ :: rest) scope pos) (some (.Name y py)) spos.line env = pure true)
    (hclos : closureFor scope env = pure cl) (hkind : scope.kind = .function) (hnames : ∀ x ∈ scope.names, x.2 = .local → scope.names.lookup x.1 = some .local) (hca : ∀ n, cellsFrom n scope.names cl = [] ++ cl) (hca0 : ∀ n, cellsFrom n scope.names [] = [])
    (hy : env.kindOf y = some .local) (hp : (env.scope.kind == .class || (env.scope.kind == .module && env.locals != env.globals)) = false)
    (h : wpAny (model prog w) A (eval iter env) (fun xv s₁ => wpAny (model prog w) A (pyIter xv) (fun it s₂ => ∃ I fp wr n PI St m, it = .ref I ∧ Drw prog w A target I fp wr n PI St ∧ St 0 s₂.heap ∧ s₂.heap.Ns env.locals m ∧
      ∀ D C h₁ R, D = s₂.heap.objs.size → C = D + 1 → h₁.Ns C (fun _ => none) → Ext s₂.heap h₁ → h₁.get? D = some (listOf #[] 0) → St 0 h₁ →
        (∀ h tk u, h.Ns C u → h.Ns env.locals m → (∀ h' tk', (∀ b o, b ≠ C → b ≠ env.locals → h.get? b = some o → h'.get? b = some o) → h'.Ns env.locals (fun z => if z = y then some (.ref D) else m z) → Q .next { s₂ with heap := h', toks := tk' }) → R (.ok .next) { s₂ with heap := h, toks := tk }) →
        codeAny (model prog w) A (.compLoop (.ListComp elt (⟨target, iter, ifs, 0⟩ :: rest) scope pos) 0 (.ref I) (.ref D) (compEnvC scope cl C env)) R { s₂ with heap := h₁ }) E s₁) E s)
    (hs : ∀ x, foldedSetIterable iter env x = pure x := by intro _; with_unfolding_all rfl) :
    wpAny (model prog w) A (exec (.Assign [.Name y py] (.ListComp elt (⟨target, iter, ifs, 0⟩ :: rest) scope pos) spos) env) Q E s := by
  rw [exec_Assign_Name_used _ _ _ _ hsw]
  refine wpAny_bind (wpAny_standAt (wpAny_bind ?_))
  show wpAny _ A (do let _ ← comprehension (.ListComp elt (⟨target, iter, ifs, 0⟩ :: rest) scope pos) scope env _ (newList []) false (eval iter env) (some (assign (.Name y py) env))) _ _ s
  refine wpAny_bind (wpAny_mono (wpAny_comprehension_free (use := some (assign (.Name y py) env)) (Q := fun _ s' => Q .next s') rfl hs hclos hkind hnames
    (wpAny_mono h (fun xv s₁ h₁ => wpAny_mono h₁ (fun it s₂ h₂ => ?_) fun _ _ e => e) fun _ _ e => e)) (fun _ s' hq => wpAny_pure (wpAny_pure hq)) fun _ _ e => e)
  obtain ⟨I, fp, wr, n, PI, St, m, rfl, T, st, hn, K⟩ := h₂
  obtain ⟨oL, es, ep, hL, _⟩ := id hn
  refine wpAny_newObj_type (newEnv_comp (fun _ => []) hca hca0 fun h₁ cs hns hk hca1 hcs => ?_)
  dsimp only at hns hk ⊢
  have e1 : (s₂.heap.push { cls := .type "list", dict := none, data := .seq ([] : List Value).toArray }).objs.size = s₂.heap.objs.size + 1 := Heap.size_push ..
  rw [e1] at hns ⊢
  have old : ∀ b o, s₂.heap.get? b = some o → h₁.get? b = some o := fun b o e => hk b o (Heap.get?_push_of_some _ e)
  have hD : h₁.get? s₂.heap.objs.size = some (listOf #[] 0) := hk _ _ (Heap.get?_push_size _ rfl)
  have st1 : St 0 h₁ := T.frame _ _ _ st fun b _ o e => old b o e
  have hLD : @LT.lt Nat _ env.locals s₂.heap.objs.size := Heap.lt_size hL
  have loop := K s₂.heap.objs.size (s₂.heap.objs.size + 1) h₁ (compPost (model prog w) A E (some (assign (.Name y py) env)) (fun _ s' => Q .next s') (.ref s₂.heap.objs.size) (s₂.heap.objs.size + 1)) rfl rfl hns old hD st1 fun h tk u hnC hLk hQ => by
    have hLC : env.locals ≠ s₂.heap.objs.size + 1 := Nat.ne_of_lt (Nat.lt_succ_of_lt hLD)
    show wpAny _ A (assign (.Name y py) env (.ref s₂.heap.objs.size)) _ _ _
    refine wpAny_assign_Name (wpAny_storeName_local hy hLk (fun h₂ hn₂ hs₂ => ?_) hp)
    refine ⟨u, hnC.sameBut hs₂ (Ne.symm hLC), fun h₃ hs₃ => ?_⟩
    refine hQ h₃ _ (fun b o hb hbL e => hs₃.extBut b o hb (hs₂.extBut b o hbL e)) (hn₂.sameBut hs₃ hLC)
  exact codeAny_compStart_list loop (T.self 0 _ _ _ st1 loop)
end

end
local macro_rules | `(tactic| walk_at "call type:range") => `(tactic| refine Stop.out ?_)

local macro_rules | `(tactic| walk_at "eval ListComp") => `(tactic| refine Stop.out ?_)

local macro_rules | `(tactic| walk_at "eval Name") => `(tactic| (k_here; (with_reducible show wpAny _ _ (eval (Expr.Name _ _) (compEnvC _ _ _ _)) _ _ _); k_dflt (refine' nameC_C rfl ?x ?c ?o ?d ?_; (case x => with_unfolding_all rfl); (case c => with_unfolding_all rfl); (case o => first | exact News.get (by assumption) (by k_mem) | exact Fr.keep (by assumption) _ _ (by assumption)); (case d => assumption); k_whole)))

local macro_rules | `(tactic| walk_at "eval Name") => `(tactic| (k_here; (with_reducible show wpAny _ _ (eval (Expr.Name _ _) (compEnvC _ _ _ _)) _ _ _); k_dflt (refine' nameC_L rfl ?x ?F ?v ?_; (case x => with_unfolding_all rfl); (case F => k_asm); (case v => rfl); k_whole)))

section
/-- the walk begins anew -/
theorem anewK1 {M : Model} {A : Around} {E : Value → Shared → Prop} {Q : Value → Shared → Prop} {s : Shared} {env : Env} (h : ∀ v s', Q v s') : wpAny M A (eval (.Constant (.int 0) 0 ⟨0, 0, 0, 0⟩) env) Q E s := by
  w_top off
  first
    | (walk1; exact h _ _)
    | exact wpAny_Constant_int (h _ _)
local macro_rules | `(tactic| walk_at "compareOp NotIn int ref") => `(tactic| (k_here; (with_reducible show wpAny _ _ (compareOp CmpOp.NotIn (Value.int _ _) (Value.ref _)) _ _ _); k_dflt (refine' notIn_ints ?x ?y ?_; (case x => exact ⟨_, Fr.keep (by assumption) _ _ (by assumption), rfl, _, rfl⟩); (case y => assumption); k_whole)))
local macro_rules | `(tactic| walk_at "compareOp In int ref") => `(tactic| (k_here; (with_reducible show wpAny _ _ (compareOp CmpOp.In (Value.int _ _) (Value.ref _)) _ _ _); k_dflt (refine' in_ints ?x ?y ?_; (case x => exact ⟨_, Fr.keep (by assumption) _ _ (by assumption), rfl, _, rfl⟩); (case y => assumption); k_whole)))
section
variable {prog : Program} {w : World} {A : Around} {E : Value → Shared → Prop} {s : Shared} {D D' : Addr} {v : Value} {vs : List Value} {Q : Value → Shared → Prop}
theorem ne_cons (hl : s.heap.IsList D (v :: vs).toArray) (hb : s.heap.IsList D' #[]) (hu : A.units < cLine) (h : Q (.bool true) s) : wpAny (model prog w) A (compareOp .NotEq (.ref D) (.ref D')) Q E s := ne_empty hl hb hu h
theorem ne_nil (hl : s.heap.IsList D ([] : List Value).toArray) (hb : s.heap.IsList D' #[]) (hu : A.units < cLine) (h : Q (.bool false) s) : wpAny (model prog w) A (compareOp .NotEq (.ref D) (.ref D')) Q E s := ne_empty hl hb hu h
end
local macro_rules | `(tactic| walk_at "compareOp NotEq ref ref") => `(tactic| (k_here; (with_reducible show wpAny _ _ (compareOp CmpOp.NotEq (Value.ref _) (Value.ref _)) _ _ _); k_dflt (refine' ne_nil ?x ?y ?u ?_; (case x => walk_at "J"); (case y => walk_at "J"); (case u => walk_at "U"); k_whole)))
local macro_rules | `(tactic| walk_at "compareOp NotEq ref ref") => `(tactic| (k_here; (with_reducible show wpAny _ _ (compareOp CmpOp.NotEq (Value.ref _) (Value.ref _)) _ _ _); k_dflt (refine' ne_cons ?x ?y ?u ?_; (case x => walk_at "I"); (case y => walk_at "J"); (case u => walk_at "U"); k_whole)))
/-- a value is a list of these numbers -/
abbrev natInts (ns : List Nat) : List Int := ns.map fun n : Nat => (n : Int)
def IntsIn (g : Heap) (v : Value) (x : List Nat) : Prop := ∃ a vs n, v = .ref a ∧ g.get? a = some (listOf vs.toArray n) ∧ IntsAre vs (natInts x)
inductive IntLists (g : Heap) : List Value → List (List Nat) → Prop
  | nil : IntLists g [] []
  | cons {v vs x xs} : IntsIn g v x → IntLists g vs xs → IntLists g (v :: vs) (x :: xs)
theorem IntsIn.ext {g h : Heap} {v : Value} {x : List Nat} (H : IntsIn g v x) (k : Ext g h) : IntsIn h v x := let ⟨a, vs, n, e, ha, hs⟩ := H; ⟨a, vs, n, e, k _ _ ha, hs⟩
theorem IntLists.ext {g h : Heap} {vs : List Value} {xs : List (List Nat)} (H : IntLists g vs xs) (k : Ext g h) : IntLists h vs xs := by
  induction H with
  | nil => exact .nil
  | cons h _ ih => exact .cons (h.ext k) ih
theorem IntLists.length {g : Heap} {vs : List Value} {xs : List (List Nat)} (H : IntLists g vs xs) : vs.length = xs.length := by
  induction H with
  | nil => rfl
  | cons h _ ih => simp [ih]
theorem IntLists.get {g : Heap} {vs : List Value} {xs : List (List Nat)} (H : IntLists g vs xs) : ∀ {i : Nat} {v : Value}, vs[i]? = some v → ∃ x, xs[i]? = some x ∧ IntsIn g v x := by
  induction H with
  | nil => intro i v e; cases e
  | cons h _ ih =>
    intro i v e
    cases i with
    | zero => cases e; exact ⟨_, rfl, h⟩
    | succ i => exact ih e
def frontF (es : List (List Nat)) (kept front : List Nat) : List Nat := (List.range 5).filter fun k => !kept.contains k && front.any fun p => (es.getD p []).contains k
def keptGo : Nat → List (List Nat) → List Nat → List Nat → List Nat
  | 0, _, kept, _ => kept
  | n + 1, es, kept, front => if front.isEmpty then kept else keptGo n es (kept ++ front) (frontF es (kept ++ front) front)
theorem cells3 {cm : Str → Option Value} {n n' n'' : Str} {c c' c'' : Addr} {cells : List (Addr × Obj)} (x : CellsAre cm [(n, c), (n', c'), (n'', c'')] cells) :
    ∃ o o' o'', cells = [(c, o), (c', o'), (c'', o'')] ∧ o.data = .cell (cm n) ∧ o'.data = .cell (cm n') ∧ o''.data = .cell (cm n'') := by
  cases x with
  | cons h r => cases r with
    | cons h2 r => cases r with
      | cons h3 r => cases r; exact ⟨_, _, _, rfl, h, h2, h3⟩
/-- what holds at law_kept's loop -/
structure KInv (L R0 : Nat) (es : List (List Nat)) (R : List Nat) (n : Nat) (kept front : List Nat) (D1 D2 : Addr) (kv fv : List Value) (ok of : Obj) : Prop where
  k : ok.data = .cell (some (.ref D1))
  f : of.data = .cell (some (.ref D2))
  ik : IntsAre kv (natInts kept)
  jf : IntsAre fv (natInts front)
  go : keptGo n es kept front = R
  fuel : 6 ≤ n + kept.length
  nd : (kept ++ front).Nodup
  lt : ∀ x ∈ kept ++ front, x < 5
  l1 : @Ne Nat D1 (L + 1 + 1 + 1) ∧ @Ne Nat D1 (L + 1 + 1) ∧ @Ne Nat D1 (L + 1)
  l2 : @Ne Nat D2 (L + 1 + 1 + 1) ∧ @Ne Nat D2 (L + 1 + 1) ∧ @Ne Nat D2 (L + 1)
theorem short_of : ∀ {n : Nat} {l : List Nat}, l.Nodup → (∀ x ∈ l, x < n) → l.length ≤ n := by
  intro n
  induction n with
  | zero =>
    intro l _ k
    cases l with
    | nil => exact Nat.le_refl _
    | cons a l => exact absurd (k a (.head _)) (Nat.not_lt_zero _)
  | succ n ih =>
    intro l h k
    have h1 : (l.erase n).length ≤ n := ih (h.erase n) fun x hx => by
      have h2 := (h.mem_erase_iff).mp hx
      have := k x h2.2
      have := h2.1
      omega
    have h3 : l.length - 1 ≤ (l.erase n).length := by
      rw [List.length_erase]
      split <;> omega
    omega
theorem front_mem {es : List (List Nat)} {kept front : List Nat} {x : Nat} (h : x ∈ frontF es kept front) : x < 5 ∧ x ∉ kept := by
  obtain ⟨h1, h2⟩ := List.mem_filter.mp h
  refine ⟨List.mem_range.mp h1, fun hm => ?_⟩
  have : kept.contains x = true := by simpa using hm
  rw [this] at h2
  exact absurd h2 (by simp)
theorem front_nd {es : List (List Nat)} {kept front : List Nat} (nd : kept.Nodup) : (kept ++ frontF es kept front).Nodup :=
  List.nodup_append.mpr ⟨nd, List.nodup_range.filter _, fun a ha b hb e => (front_mem hb).2 (e ▸ ha)⟩
theorem front_lt {es : List (List Nat)} {kept front : List Nat} (lt : ∀ x ∈ kept, x < 5) : ∀ x ∈ kept ++ frontF es kept front, x < 5 := fun x hx => by
  rcases List.mem_append.mp hx with h | h
  · exact lt x h
  · exact (front_mem h).1
theorem ints_get {vs : List Value} {ns : List Nat} (h : IntsAre vs (natInts ns)) {j : Nat} {v : Value} (e : vs[j]? = some v) : ∃ p tp, v = .int ((p : Nat) : Int) tp ∧ ns[j]? = some p := by
  induction ns generalizing vs j with
  | nil => cases h; cases e
  | cons n ns ih =>
    cases h with
    | cons _ t h =>
      cases j with
      | zero => cases e; exact ⟨n, t, rfl, rfl⟩
      | succ j => exact ih h e
theorem ints_snoc {vs : List Value} {ns : List Nat} (h : IntsAre vs (natInts ns)) {p : Nat} {t : Tok} : IntsAre (vs ++ [.int (p : Int) t]) (natInts (ns ++ [p])) := by
  induction ns generalizing vs with
  | nil => cases h; exact .cons _ _ .nil
  | cons n ns ih => cases h with | cons _ u h => exact .cons _ _ (ih h)
theorem any_filter {α : Type} (l : List α) (q : α → Bool) : l.any q = !(l.filter q).isEmpty := by
  induction l with
  | nil => rfl
  | cons a l ih =>
    rw [List.any_cons, List.filter_cons, ih]
    cases q a <;> rfl
theorem item_at {prog : Program} {w : World} {A : Around} {E : Value → Shared → Prop} {s : Shared} {D : Addr} {vs : List Value} {n : Nat} {x : Value} {value slice : Expr} {k : Int} {u : Tok} {Q : Value → Shared → Prop}
    (ho : s.heap.get? D = some (listOf vs.toArray n)) (j : Nat) (hx : vs[j]? = some x) (hk : k = (j : Int)) (hfit : j < 100000) (h : Q x s)
    (hs' : subscripted slice false (.ref D) (.int k u) = operate [.ref D, .int k u] (getItem (.ref D) (.int k u)) := by with_unfolding_all rfl) (hg : ∀ r, letTemporaryGo value (.ref D) r = pure () := by intro _; with_unfolding_all rfl) :
    wpAny (model prog w) A (subscriptTail value slice (.ref D) (.int k u)) Q E s :=
  item_any (h₀ := hideAll s.heap [D]) (L := D + 1) (news := [(D, listOf vs.toArray n)]) (fun p hp => by rw [List.mem_singleton.mp hp]; exact ⟨ho, Nat.ne_of_lt (Nat.lt_succ_self _), hideAll_none _ (.head _)⟩) (.head _) j hx hk hfit h hs' hg
theorem ints_nil {vs : List Value} (h : IntsAre vs (natInts [])) : vs = [] := by cases h; rfl
theorem ints_cons {vs : List Value} {f : Nat} {fs : List Nat} (h : IntsAre vs (natInts (f :: fs))) : ∃ t vs', vs = .int (f : Int) t :: vs' ∧ IntsAre vs' (natInts fs) := by cases h with | cons _ t h => exact ⟨t, _, rfl, h⟩
section
variable {w : World} {mean : ExcName → Option Value} {mg mb : Str → Option Value} {A : Around} {s : Shared} {E : Value → Shared → Prop} {Q : Value → Shared → Prop}
set_option maxHeartbeats 4000000 in
theorem law_kept (W : WF w mean mg mb s.heap) {k0 : Nat} {t : Tok} {l : Addr} {evs : List Value} {nn : Nat} {es : List (List Nat)} (hl : s.heap.get? l = some (listOf evs.toArray nn)) (H : IntLists s.heap evs es) (hes : es.length = 5) (hk0 : k0 < 5) (hd : A.depth + 24 < recursionLimit) (hu : A.units + 200 < cLine) (hh : A.handled = none)
   (ret : ∀ D (ws : List Value) kn h' tk', IntsAre ws (natInts (keptGo 6 es [] [k0])) → Ext s.heap h' → s.heap.get? D = none → h'.get? D = some (listOf ws.toArray kn) → Q (.ref D) { s with heap := h', toks := tk' }) :
   wpAny (MD w) A (call (.ref 211) [.int (k0 : Int) t, .ref l]) Q E s := by
  obtain ⟨hd0, dp, fr, gd, un⟩ := A
  cases hh
  dsimp only at hd hu
  refine wpAny_call ?_
  k_dflt (refine' enterC (binds := [(Str.ofString "start", .int (k0 : Int) t), (Str.ofString "edges", .ref l)]) W ?k6 ?k7 ?k8 ?k9 ?kB ?kn ?_ ?c2 ?c3 ?c4)
  ((case k6 => k_is); (case k7 => k_is); (case k8 => ((try dsimp only); omega)); (case k9 => exact BindsTo.of_eq rfl); (case kn => decide); (case c2 => exact rfl); (case c3 => exact rfl); (case c4 => exact rfl))
  case kB =>
    intro n x hx
    rcases List.mem_cons.mp hx with rfl | hx
    · exact .inl rfl
    · rw [List.mem_singleton.mp hx]; exact .inr ⟨rfl, rfl⟩
  intro g' L' h' tk0 cells F' N' Y X' T' hg'
  subst hg'
  try k_fold
  obtain ⟨of, ok, oe, rfl, ef, ek', ee⟩ := cells3 (n := Str.ofString "front") (n' := Str.ofString "kept") (n'' := Str.ofString "edges") (c := L' + 1 + 1 + 1) (c' := L' + 1 + 1) (c'' := L' + 1) Y
  clear Y
  have ee1 : oe.data = .cell (some (.ref l)) := ee
  have ef1 : of.data = .cell none := ef
  have ek1 : ok.data = .cell none := ek'
  clear ee ef ek'
  have F1 : Fr s.heap L' h' (fun y => if y = Str.ofString "start" then some (.int (k0 : Int) t) else none) := F'
  clear F'
  k_steps
  rename Fr _ _ _ _ => F1
  rename News _ _ _ _ => N1
  rename_i D1 _ _ D2 _ _ TT _ _ _ _ ok1 dk _ of1 df
  unfold Stop
  refine while_k (σ := Nat × (List Nat × List Nat) × (Addr × Addr) × (List Value × Nat) × (List Value × Nat) × Obj × Obj)
    (fun c => [(L' + 1 + 1 + 1, c.2.2.2.2.2.2), (L' + 1 + 1, c.2.2.2.2.2.1), (L' + 1, oe), (c.2.2.1.1, listOf c.2.2.2.1.1.toArray c.2.2.2.1.2), (c.2.2.1.2, listOf c.2.2.2.2.1.1.toArray c.2.2.2.2.1.2)]) (fun c => []) [] (fun c => c.1)
    (fun c => KInv L' 0 es (keptGo 6 es [] [k0]) c.1 c.2.1.1 c.2.1.2 c.2.2.1.1 c.2.2.1.2 c.2.2.2.1.1 c.2.2.2.2.1.1 c.2.2.2.2.2.1 c.2.2.2.2.2.2)
    (6, ([], [k0]), (D1, D2), ([], 0), ([.int (k0 : Int) t], 0), ok1, of1) F1 N1 ?sub trivial ?init ?turn
  case sub =>
    intro p hp
    simp only [List.mem_cons, List.not_mem_nil, or_false] at hp ⊢
    rcases hp with h | h | h | h | h <;> subst h <;> simp
  case init => exact ⟨dk, df, .nil, .cons _ _ .nil, rfl, Nat.le_refl _, by simp, fun x hx => by rw [List.mem_singleton.mp hx]; exact hk0, ⟨by dsimp only; omega, by dsimp only; omega, by dsimp only; omega⟩, ⟨by dsimp only; omega, by dsimp only; omega, by dsimp only; omega⟩⟩
  rintro ⟨n, ⟨kept, front⟩, ⟨K1, K2⟩, ⟨kv, kk⟩, ⟨fv, fk⟩, o1, o2⟩ u h tk hp F2 N2
  clear F1 N1
  dsimp only at hp N2
  obtain ⟨d1, d2, ik, jf, go, fuel, nd, lt, ⟨m1, m2, m3⟩, ⟨m4, m5, m6⟩⟩ := hp
  have F3 : Fr s.heap L' h u := F2
  clear F2
  cases front with
  | nil =>
    obtain rfl := ints_nil jf
    have hR : keptGo 6 es [] [k0] = kept := by
      rw [← go]
      cases n <;> rfl
    k_steps
    walk_at "Ends"
    rename Fr _ _ _ _ => F4
    rename News _ _ _ _ => N4
    have hm := N4 (K1, listOf kv.toArray kk) (by simp)
    exact ret K1 kv kk _ _ (by rw [hR]; exact ik) F4.keep hm.2.2 hm.1
  | cons f0 fs =>
    obtain ⟨t1, fv, rfl, jf1⟩ := ints_cons jf
    have hlen := short_of nd lt
    rw [List.length_append, List.length_cons] at hlen
    cases n with
    | zero => omega
    | succ n =>
      have hkl : kv.length = kept.length := by have := ik.length; rw [List.length_map] at this; exact this
      have hfl : fv.length = fs.length := by have := jf1.length; rw [List.length_map] at this; exact this
      k_steps
      rename Fr _ _ _ _ => F4
      rename News _ _ _ _ => N4
      rename_i D3 kv3 h3 ik3 l3 h4 o3 d3
      have ik4 : IntsAre kv3 (natInts (kept ++ f0 :: fs)) := by rw [natInts, List.map_append]; exact ik3
      clear ik3
      unfold Stop
      refine' ListComp_own (ca := fun n => [(Str.ofString "k", n)]) ?hclos rfl ?hnames ?hca ?hca0 ?h
      case hclos => with_unfolding_all rfl
      case hnames => decide
      case hca => intro n; with_unfolding_all rfl
      case hca0 => intro n; with_unfolding_all rfl
      k_steps
      unfold Stop
      refine' iter_range (n := 5) rfl ?ht (by omega) ?hk
      case' hk => intro I fp wr St s₂ KI
      case' hk => obtain ⟨hs2, tks2, rfl⟩ := KI.same
      case' hk => refine ⟨I, fp, wr, _, _, St, _, comp_at KI (by rw [sizeLine_eq]; omega) (fun i ys tl => tl = [] ∧ IntsAre ys (natInts ((List.range i).filter fun k => !(kept ++ f0 :: fs).contains k && (f0 :: fs).any fun p => (es.getD p []).contains k))) ⟨rfl, .nil⟩ ?turn2 ?done2⟩
      case ht => intro I v; with_unfolding_all rfl
      case done2 =>
        rintro D4 ys k tl h5 tk5 ⟨rfl, hys⟩ hDn hk5 hD4 _
        have hk5 : Ext h4 h5 := fun b o e => hk5 b o (fun h => nomatch h) e
        have hDn : h4.get? D4 = none := hDn
        have F5 := frExt F4 hk5
        have N5 := newsCons F4 (newsExt N4 hk5) hk5 hDn hD4
        have q : ∀ b o, h4.get? b = some o → @Ne Nat D4 b := fun b o e h => by rw [show D4 = b from h, e] at hDn; cases hDn
        have q1 := q _ _ (N4 (L' + 1 + 1 + 1, o2) (by simp)).1
        have q2 := q _ _ (N4 (L' + 1 + 1, o3) (by simp)).1
        have q3 := q _ _ (N4 (L' + 1, oe) (by simp)).1
        have q4 := q _ _ (N4 (D3, listOf kv3.toArray 0) (by simp)).1
        clear F4 N4
        k_steps
        show TurnEnd _ _ _ _ _ _ { s with heap := _, toks := _ } { s with heap := _, toks := _ }
        rename Fr _ _ _ _ => F6
        rename News _ _ _ _ => N6
        rename_i o5 d5
        refine TurnEnd.mk (ps := fun _ => []) (P := fun c => c.1 < n + 1 ∧ KInv L' 0 es (keptGo 6 es [] [k0]) c.1 c.2.1.1 c.2.1.2 c.2.2.1.1 c.2.2.1.2 c.2.2.2.1.1 c.2.2.2.2.1.1 c.2.2.2.2.2.1 c.2.2.2.2.2.2) (n, (kept ++ f0 :: fs, frontF es (kept ++ f0 :: fs) (f0 :: fs)), (D3, D4), (kv3, 0), (ys, k), o3, o5) F6 N6 ?_ (by exact True.intro) ?hp6
        case hp6 => exact ⟨Nat.lt_succ_self n, ⟨d3, d5, ik4, hys, go, by dsimp only; rw [List.length_append, List.length_cons]; omega, front_nd nd, front_lt lt, ⟨by dsimp only; omega, by dsimp only; omega, by dsimp only; omega⟩, ⟨q1, q2, q3⟩⟩⟩
        · intro p hp
          simp only [List.mem_cons, List.not_mem_nil, or_false, List.append_nil] at hp ⊢
          rcases hp with h | h | h | h | h <;> subst h <;> simp
      case turn2 =>
        rintro D4 C g wr i v tu u' X cs ys k tl h5 tk5 E' hg rfl hi ⟨⟨tv, rfl⟩, rfl⟩ ⟨rfl, hys⟩ hoff hX hX2 hcs hlen5 F5 N5
        obtain ⟨oc, v0, rfl, hoc⟩ := cells_one hcs
        have hg : Ext h4 g := hg
        have g1 := hg _ _ (N4 (L' + 1 + 1 + 1, o2) (by simp)).1
        have g2 := hg _ _ (N4 (L' + 1 + 1, o3) (by simp)).1
        have g3 := hg _ _ (N4 (L' + 1, oe) (by simp)).1
        have g4 := hg _ _ (N4 (D3, listOf kv3.toArray 0) (by simp)).1
        have g5 := hg _ _ (N4 (K2, listOf (Value.int (↑f0) t1 :: fv).toArray fk) (by simp)).1
        have g6 := hg _ _ (F4.keep _ _ hl)
        have hsg : Ext s.heap g := fun b o e => hg _ _ (F4.keep _ _ e)
        have Wg : WF w mean mg mb g := WF.keeps (wf_of X' T' F4) hg
        clear F4 N4
        have N6 : News g (D4 + 1) h5 ((D4, listOf ys.toArray k) :: (D4 + 1 + 1, oc) :: X) := N5
        clear N5
        refine assignC_C rfl ?hx2 ?hc2 F5 N6 hoc (Nat.ne_of_lt (Nat.lt_succ_of_lt (Nat.lt_succ_self _))) (fun p hp => ?hr2) ?hh2
        case hx2 => with_unfolding_all rfl
        case hc2 => with_unfolding_all rfl
        case hr2 =>
          have := hX2 p hp
          intro e
          rw [e] at this
          exact absurd (Nat.lt_of_succ_lt (Nat.lt_of_succ_lt this)) (Nat.lt_irrefl _)
        intro h6 oc1 F7 N7 hoc1
        clear F5 N6
        refine wpAny_tests_one ?_
        k_steps
        · rename_i hct
          refine EltEnd.mk [(D4 + 1 + 1, oc1)] [] F7 N7 (fun p hp => hp) (cells_is hoc1) (fun _ h => nomatch h) ⟨rfl, ?_⟩
          rw [List.range_succ, List.filter_append]
          have : ([i].filter fun k => !(kept ++ f0 :: fs).contains k && (f0 :: fs).any fun p => (es.getD p []).contains k) = [] := by
            simp only [List.filter_cons, hct, Bool.not_true, Bool.false_and, Bool.false_eq_true, if_false, List.filter_nil]
          rw [this, List.append_nil]
          exact hys
        · rename_i hct
          unfold Stop
          refine' ListComp_own (ca := fun n => []) ?hclos3 rfl ?hnames3 ?hca3 ?hca03 ?h3
          case hclos3 => with_unfolding_all rfl
          case hnames3 => decide
          case hca3 => intro n; rfl
          case hca03 => intro n; with_unfolding_all rfl
          k_steps
          refine' iter_list (vs := .int (f0 : Int) t1 :: fv) rfl ?ht3 (F7.keep _ _ g5) ?hk3
          case' hk3 => intro I3 fp3 wr3 St3 s₃ KI3
          case' hk3 => obtain ⟨hs3, tks3, rfl⟩ := KI3.same
          case' hk3 => refine ⟨I3, fp3, wr3, _, _, St3, _, comp_at KI3 (by rw [sizeLine_eq, List.length_cons]; omega) (fun j zs tl => tl = [] ∧ IntsAre zs (natInts (((f0 :: fs).take j).filter fun p => (es.getD p []).contains i))) ⟨rfl, .nil⟩ ?turn3 ?done3⟩
          case ht3 => intro I v; with_unfolding_all rfl
          case turn3 =>
            rintro D5 C5 g5' wr5 j v tu u5 X5 cs5 zs k5 tl5 h7 tk7 E5 hg5 rfl hj ⟨hv, rfl⟩ ⟨rfl, hzs⟩ _ _ _ hcs5 _ F8 N8
            obtain rfl := cells_none hcs5
            have hg5 : Ext h6 g5' := hg5
            have r1 := hg5 _ _ (F7.keep _ _ g3)
            have r2 := hg5 _ _ (N7 _ (.tail _ (.head _))).1
            have r3 := hg5 _ _ (F7.keep _ _ g6)
            have H5 : IntLists g5' evs es := H.ext fun b o e => hg5 _ _ (F7.keep _ _ (hsg b o e))
            clear F7 N7
            refine assignC_L rfl ?hx3 F8 N8 ?hh3
            case hx3 => with_unfolding_all rfl
            intro h8 tk8 F9 N9
            clear F8 N8
            refine wpAny_tests_one ?_
            obtain ⟨p, tp, rfl, hp⟩ := ints_get jf hv
            have hp5 : p < 5 := lt p (List.mem_append_right _ (List.mem_of_getElem? hp))
            have hel : evs.length = 5 := by rw [H.length]; exact hes
            obtain ⟨y, hy⟩ : ∃ y, evs[p]? = some y := ⟨_, List.getElem?_eq_getElem (by omega)⟩
            obtain ⟨xe, hxe, ae, aes, ne, rfl, hae, hie⟩ := H5.get hy
            have hgd : es.getD p [] = xe := by rw [List.getD_eq_getElem?_getD, hxe]; rfl
            k_steps
            rename Fr _ _ _ _ => F10
            refine item_at (F10.keep _ _ r3) p hy rfl (by omega) ?_
            have htk : (((f0 :: fs).take (j + 1)).filter fun p => (es.getD p []).contains i) = (((f0 :: fs).take j).filter fun p => (es.getD p []).contains i) ++ (if xe.contains i then [p] else []) := by
              rw [List.take_add_one, hp, List.filter_append]
              congr 1
              show ([p].filter fun p => (es.getD p []).contains i) = _
              rw [List.filter_cons, hgd]
              rfl
            k_steps
            · rename Fr _ _ _ _ => F11
              rename News _ _ _ _ => N11
              rename_i hci
              refine EltEnd.mk [] [] F11 N11 (fun p hp => hp) ⟨rfl, fun _ h => nomatch h⟩ (fun _ h => nomatch h) ⟨rfl, ?_⟩
              rw [htk, if_pos hci]
              exact ints_snoc hzs
            · rename Fr _ _ _ _ => F11
              rename News _ _ _ _ => N11
              rename_i hci
              refine EltEnd.mk [] [] F11 N11 (fun p hp => hp) ⟨rfl, fun _ h => nomatch h⟩ (fun _ h => nomatch h) ⟨rfl, ?_⟩
              rw [htk, if_neg (by rw [hci]; decide), List.append_nil]
              exact hzs
          case done3 =>
            rintro D5 zs k5 tl5 h7 tk7 ⟨rfl, hzs⟩ hDn5 hk7 hD5 _
            have hk7 : Ext h6 h7 := fun b o e => hk7 b o (fun h => nomatch h) e
            have hDn5 : h6.get? D5 = none := hDn5
            have F8 := frExt F7 hk7
            have N8 := newsCons F7 (newsExt N7 hk7) hk7 hDn5 hD5
            clear F7 N7
            have hall : (f0 :: fs).take (Value.int (↑f0) t1 :: fv).length = f0 :: fs := List.take_of_length_le (by rw [List.length_cons, List.length_cons]; omega)
            rw [hall] at hzs
            have hany := any_filter (f0 :: fs) fun p => (es.getD p []).contains i
            have hri : ((List.range (i + 1)).filter fun k => !(kept ++ f0 :: fs).contains k && (f0 :: fs).any fun p => (es.getD p []).contains k) = ((List.range i).filter fun k => !(kept ++ f0 :: fs).contains k && (f0 :: fs).any fun p => (es.getD p []).contains k) ++ (if ((f0 :: fs).any fun p => (es.getD p []).contains i) then [i] else []) := by
              rw [List.range_succ, List.filter_append]
              congr 1
              rw [List.filter_cons, hct]
              rfl
            cases hz : (f0 :: fs).filter fun p => (es.getD p []).contains i with
            | nil =>
              rw [hz] at hzs hany
              obtain rfl := ints_nil hzs
              k_steps
              rename Fr _ _ _ _ => F11
              rename News _ _ _ _ => N11
              refine EltEnd.mk [(D4 + 1 + 1, oc1)] [] F11 N11 (fun p hp => ?_) (cells_is hoc1) (fun _ h => nomatch h) ⟨rfl, ?_⟩
              · exact .tail _ (.tail _ hp)
              · rw [hri, hany]
                show IntsAre ys (natInts (_ ++ []))
                rw [List.append_nil]
                exact hys
            | cons a r =>
              rw [hz] at hzs hany
              obtain ⟨ta, zs, rfl, _⟩ := ints_cons hzs
              k_steps
              rename Fr _ _ _ _ => F11
              rename News _ _ _ _ => N11
              refine EltEnd.mk [(D4 + 1 + 1, oc1)] [] F11 N11 (fun p hp => ?_) (cells_is hoc1) (fun _ h => nomatch h) ⟨rfl, ?_⟩
              · exact .tail _ (.tail _ hp)
              · rw [hri, hany]
                show IntsAre (ys ++ [_]) (natInts (_ ++ [i]))
                exact ints_snoc hys
end

end
section
/-- the walk begins anew -/
theorem anewK2 {M : Model} {A : Around} {E : Value → Shared → Prop} {Q : Value → Shared → Prop} {s : Shared} {env : Env} (h : ∀ v s', Q v s') : wpAny M A (eval (.Constant (.int 0) 0 ⟨0, 0, 0, 0⟩) env) Q E s := by
  w_top off
  first
    | (walk1; exact h _ _)
    | exact wpAny_Constant_int (h _ _)
local macro_rules | `(tactic| walk_at "exec For Name Name cons nil") => `(tactic| refine Stop.out ?_)
local macro_rules | `(tactic| walk_at "truthy ref") => `(tactic| (k_here; (with_reducible show wpAny _ _ (truthy (Value.ref _)) _ _ _); k_dflt (refine' truthy_cons ?N ?m ?z ?_; (case N => k_asm); (case m => k_mem); (case z => first | omega | (simp only [List.length_cons] at *; omega)); k_whole)))
local macro_rules | `(tactic| walk_at "truthy ref") => `(tactic| (k_here; (with_reducible show wpAny _ _ (truthy (Value.ref _)) _ _ _); k_dflt (refine' truthy_nil ?N ?m ?_; (case N => k_asm); (case m => k_mem); k_whole)))
def rmF (acc : Option (List (List Str))) (x : List Str) : Option (List (List Str)) := acc.bind fun t => if t.any (· == x) then some (t.erase x) else none
def cmpF (xs ys : List (List Str)) : Bool := match (dedupF xs).foldl rmF (some (dedupF ys)) with | some [] => true | _ => false
theorem dedupF_le : ∀ xs : List (List Str), (dedupF xs).length ≤ xs.length := by
  intro xs
  have key : ∀ (xs acc : List (List Str)), (xs.foldl (fun acc x => if acc.any (· == x) then acc else acc ++ [x]) acc).length ≤ acc.length + xs.length := by
    intro xs
    induction xs with
    | nil => intro acc; exact Nat.le_refl _
    | cons x xs ih =>
      intro acc
      rw [List.foldl_cons]
      refine Nat.le_trans (ih _) ?_
      split
      · rw [List.length_cons]; omega
      · rw [List.length_append, List.length_cons, List.length_cons, List.length_nil]; omega
  have := key xs []
  simpa [dedupF] using this
theorem ListsAre.split {g : Heap} {vs : List Value} {xs : List (List Str)} (H : ListsAre g vs xs) {y : List Str} (h : xs.any (· == y) = true) :
    ∃ pre v post, vs = pre ++ v :: post ∧ (∀ p ∈ pre, isL g y p = false) ∧ isL g y v = true ∧ ListsAre g (pre ++ post) (xs.erase y) := by
  induction H with
  | nil => cases h
  | @cons v vs x xs hv H ih =>
    rw [List.any_cons] at h
    cases hb : (x == y) with
    | true =>
      refine ⟨[], v, vs, rfl, (fun _ h => nomatch h), (by rw [isL_of hv, hb]), ?_⟩
      rw [List.erase_cons, hb]
      exact H
    | false =>
      rw [hb, Bool.false_or] at h
      obtain ⟨pre, v', post, rfl, h1, h2, h3⟩ := ih h
      refine ⟨v :: pre, v', post, rfl, fun p hp => ?_, h2, ?_⟩
      · rcases List.mem_cons.mp hp with rfl | hp
        · rw [isL_of hv, hb]
        · exact h1 p hp
      · rw [List.erase_cons, hb]
        exact .cons hv h3
theorem ListsAre.miss {g : Heap} {vs : List Value} {xs : List (List Str)} (H : ListsAre g vs xs) {y : List Str} (h : xs.any (· == y) = false) : ∀ v ∈ vs, isL g y v = false := by
  rw [← any_isL H] at h
  intro v hv
  cases hb : isL g y v with
  | false => rfl
  | true => exact absurd (List.any_eq_true.mpr ⟨v, hv, hb⟩) (by rw [h]; decide)
theorem rm_stay : ∀ l : List (List Str), l.foldl rmF none = none
  | [] => rfl
  | x :: l => by rw [List.foldl_cons]; exact rm_stay l
theorem same_refl : ∀ l : List (Addr × Obj), TI.SameUp l l
  | [] => trivial
  | p :: r => ⟨rfl, ⟨_, rfl⟩, same_refl r⟩
section
variable {w : World} {mean : ExcName → Option Value} {mg mb : Str → Option Value} {A : Around} {s : Shared} {E : Value → Shared → Prop} {Q : Value → Shared → Prop}
set_option hygiene false in
set_option maxHeartbeats 4000000 in
theorem law_compare {frs : List (Addr × Obj)} {fl : List Env} (W : WF w mean mg mb (hideAll s.heap (frs.map (·.1)))) {l1 l2 : Addr} {vs ws : List Value} {n1 n2 : Nat} {xs ys : List (List Str)}
   (hl1 : (hideAll s.heap (frs.map (·.1))).get? l1 = some (listOf vs.toArray n1)) (H1 : ListsAre (hideAll s.heap (frs.map (·.1))) vs xs) (hx : xs.length ≤ 1000)
   (hl2 : (hideAll s.heap (frs.map (·.1))).get? l2 = some (listOf ws.toArray n2)) (H2 : ListsAre (hideAll s.heap (frs.map (·.1))) ws ys) (hy : ys.length ≤ 1000)
   (hd : A.depth + 40 < recursionLimit) (hu : A.units + 400 < cLine) (hh : A.handled = none) (hfr : A.frames = some fl) (Fs : TI.Frs fl frs) (hin : ∀ p ∈ frs, s.heap.get? p.1 = some p.2)
   (ret : ∀ h' tk' frs', TI.SameUp frs frs' → (∀ p ∈ frs', h'.get? p.1 = some p.2) → Ext (hideAll s.heap (frs.map (·.1))) h' → Q (.bool (cmpF xs ys)) { s with heap := h', toks := tk' }) :
   wpAny (MD w) A (call (.ref 185) [.ref l1, .ref l2]) Q E s := by
  obtain ⟨hd0, dp, fr, gd, un⟩ := A
  cases hh
  cases hfr
  dsimp only at hd hu
  refine wpAny_call ?_
  k_dflt (refine' enter (as := frs.map (·.1)) (news := frs) (binds := [(Str.ofString "first_args", .ref l1), (Str.ofString "second_args", .ref l2)]) W ?kn ?k6 ?k7 ?k8 ?k9 ?kB ?_ ?c2 ?c3 ?c4 ?c5)
  case kn => exact fun p hp => ⟨hin p hp, List.mem_map_of_mem hp⟩
  ((case k6 => k_is); (case k7 => k_is); (case k8 => ((try dsimp only); omega)); (case k9 => exact BindsTo.of_eq rfl); (case c5 => decide); (case kB => exact locs rfl); (case c2 => exact rfl); (case c3 => exact rfl); (case c4 => exact rfl); k_whole)
  intro g' L' h' F' N' X' T' hg'
  subst hg'
  try k_fold
  k_steps
  rename Fr _ _ _ _ => F1
  rename News _ _ _ _ => N1
  refine dedup (wf_of X' T' F1) (F1.keep _ _ hl1) (H1.ext F1.keep) hx ?kd ?ku rfl ?_
  case kd => walk_at "D"
  case ku => walk_at "U"
  intro DA wa ka h2 tk2 HA k2 fA gA
  have hDA : ∀ p ∈ frs, p.1 ≠ DA := fun p hp e => by
    have := (N1 p hp).1
    rw [e] at this
    exact absurd (this.symm.trans fA) (by simp)
  have F2 := frExt F1 k2
  have N2 := newsCons F1 (newsExt N1 k2) k2 fA gA
  have HA := HA _ H1
  clear F1 N1
  dsimp only
  k_steps
  rename Fr _ _ _ _ => F1
  rename News _ _ _ _ => N1
  refine dedup (wf_of X' T' F1) (F1.keep _ _ hl2) (H2.ext F1.keep) hy ?kd2 ?ku2 rfl ?_
  case kd2 => walk_at "D"
  case ku2 => walk_at "U"
  intro DB wb kb h3 tk3 HB k3 fB gB
  have F2 := frExt F1 k3
  have N2 := newsCons F1 (newsExt N1 k3) k3 fB gB
  have HB := HB _ H2
  clear F1 N1
  dsimp only
  k_steps
  rename Fr _ _ _ _ => F1
  rename News _ _ _ _ => N1
  have hlA := dedupF_le xs
  have hlB := dedupF_le ys
  have hwA := HA.length
  have hwB := HB.length
  refine list_copyK F1 N1 (isl (vs := wb) (n := kb) N1 (by simp)) ?_ (by rw [sizeLine_eq, List.size_toArray]; omega)
  intro DT ct h4 F2 N2 hlt
  clear F1 N1
  k_steps
  rename Fr _ _ _ _ => F1
  rename News _ _ _ _ => N1
  unfold Stop
  with_unfolding_all refine For_invVF F1 (by rfl) (by rfl) ?_
  walk1
  refine for_k (σ := List Value × Nat) (vs := wa) (nn := ka) (fun c => (DT, listOf c.1.toArray c.2) :: (DA, listOf wa.toArray ka) :: frs) (fun _ => []) [Str.ofString "t"]
    (fun i c => ∃ t, ListsAre (hideAll s.heap (frs.map (·.1))) c.1 t ∧ ((dedupF xs).take i).foldl rmF (some (dedupF ys)) = some t ∧ c.1.length ≤ 1000) (wb, ct) rfl (N1 (DA, listOf wa.toArray ka) (by simp)).1 F1 N1 ?sub trivial ⟨_, HB, rfl, by dsimp only; omega⟩ (fun c h m F N => (N _ (.tail _ (.head _))).1) ?turn ?done
  case sub =>
    intro p hp
    rcases List.mem_cons.mp hp with rfl | hp
    · exact .head _
    · exact .tail _ (.tail _ hp)
  case turn =>
    rintro i v ⟨tv, tn⟩ u I oI h tk hv ⟨t, hT, ht, htl⟩ hI F2 N2
    clear F1 N1
    dsimp only at hT htl
    obtain ⟨x, hxx, hvx⟩ := HA.get hv
    obtain ⟨b, bvs, bn, rfl, hb, hbs⟩ := id hvx
    have F3 : Fr (hideAll s.heap (frs.map (·.1))) L' h (fun y => if y = Str.ofString "elem" then some (.ref b) else if y = Str.ofString "t" then some (.ref DT) else u y) := F2
    have N3 : News (hideAll s.heap (frs.map (·.1))) L' h ((DT, listOf tv.toArray tn) :: (DA, listOf wa.toArray ka) :: (frs ++ [(I, oI)])) := N2
    clear F2 N2
    have htake : ((dedupF xs).take (i + 1)).foldl rmF (some (dedupF ys)) = rmF (some t) x := by rw [List.take_add_one, hxx, List.foldl_append, ht]; rfl
    k_steps
    rename Fr _ _ _ _ => F3
    rename News _ _ _ _ => N3
    have heq : ∀ (v' : Value) (x' : List Str), ListIn (hideAll s.heap (frs.map (·.1))) v' x' → ∀ A' : Around, A'.units < cLine → SeqAt.EqAt A' { s with heap := h, toks := tk } v' (.ref b) (x' == x) := fun v' x' hv' A' hu' => eqAt_lists (hv'.ext F3.keep) (hvx.ext F3.keep) hu'
    have hbu : un + 5 < cLine := by omega
    have hDTI : DT ≠ I := hI _ (.head _)
    have hDT : ∀ p ∈ (DA, listOf wa.toArray ka) :: (frs ++ [(I, oI)]), p.1 ≠ DT := fun p hp e => by
      rcases List.mem_cons.mp hp with rfl | hp
      · exact Nat.ne_of_lt (hlt (DA, listOf wa.toArray ka) (by simp)) e
      · rcases List.mem_append.mp hp with hp | hp
        · exact Nat.ne_of_lt (hlt p (by simp [hp])) e
        · rw [List.mem_singleton.mp hp] at e
          exact hDTI e.symm
    by_cases hin2 : t.any (· == x) = true
    · obtain ⟨pre, v', post, rfl, hno, hhit, hT'⟩ := ListsAre.split hT hin2
      refine remove_hit (N3 _ (.head _)).1 (isL (hideAll s.heap (frs.map (·.1))) x) (fun y hy => ?_) hhit hno (by rw [List.length_append, List.length_cons] at htl; omega) (fun h5 n5 g5 s5 => ?_)
      · obtain ⟨x', hx'⟩ := hT.mem hy
        rw [isL_of hx']
        exact heq y x' hx' _ (by walk_at "U")
      · have F4 := F3.change s5 (N3 _ (.head _)).2.1 (N3 _ (.head _)).2.2
        have N4 : News (hideAll s.heap (frs.map (·.1))) L' h5 ((DT, listOf (pre ++ post).toArray n5) :: (DA, listOf wa.toArray ka) :: (frs ++ [(I, oI)])) := fun p hp => by
          rcases List.mem_cons.mp hp with rfl | hp
          · exact ⟨g5, (N3 _ (.head _)).2⟩
          · have := N3 p (.tail _ hp)
            exact ⟨s5.extBut _ _ (hDT p hp) this.1, this.2⟩
        clear F3 N3
        k_steps
        show TurnEnd _ _ _ _ _ _ _ _
        refine TurnEnd.mk (pre ++ post, n5) (by assumption) (by assumption) (fun p hp => hp) ⟨rfl, trivial⟩ ⟨⟨_, hT', ?_, ?_⟩, ?_⟩
        · rw [htake, rmF]
          simp only [Option.bind_some, hin2, if_true]
        · rw [List.length_append, List.length_cons] at htl
          dsimp only
          rw [List.length_append]
          omega
        · intro p hp
          rcases List.mem_cons.mp hp with rfl | hp
          · exact hDTI
          · exact hI p (.tail _ hp)
    · have hall : ∀ y ∈ tv, isL (hideAll s.heap (frs.map (·.1))) x y = false := ListsAre.miss hT (by cases hq : t.any (· == x) with | false => rfl | true => exact absurd hq hin2)
      refine remove_miss (N3 _ (.head _)).1 (isL (hideAll s.heap (frs.map (·.1))) x) (fun y hy => ?_) hall rfl (fun h6 tk6 a hx6 => ?_)
      · obtain ⟨x', hx'⟩ := hT.mem hy
        rw [isL_of hx']
        exact heq y x' hx' _ (by walk_at "U")
      · have hx6 : Heap.NewExc h h6 a "ValueError" := hx6
        refine TLg.noted_newA (A₀ := ⟨none, dp, some fl, gd, un⟩) (new := [(DT, listOf tv.toArray tn), (DA, listOf wa.toArray ka), (I, oI)]) rfl Fs hx6 F3 (fun p hp => N3 p ?_) ?hap (fun h7 frs' SU Fs' HN => ?_)
        · simp only [List.mem_append, List.mem_cons, List.not_mem_nil, or_false] at hp ⊢
          rcases hp with (h | h | h) | h
          · exact .inl h
          · exact .inr (.inl h)
          · exact .inr (.inr (.inr h))
          · exact .inr (.inr (.inl h))
        case hap =>
          intro p hp hm
          have hmem : p ∈ (DT, listOf tv.toArray tn) :: (DA, listOf wa.toArray ka) :: (frs ++ [(I, oI)]) := by
            simp only [List.mem_append, List.mem_cons, List.not_mem_nil, or_false] at hp ⊢
            rcases hp with h | h | h
            · exact .inl h
            · exact .inr (.inl h)
            · exact .inr (.inr (.inr h))
          rcases List.mem_cons.mp hm with hm | hm
          · exact (N3 p hmem).2.1 hm
          · obtain ⟨q, hq, e⟩ := List.mem_map.mp hm
            rcases List.mem_cons.mp hp with rfl | hp
            · exact hDT q (.tail _ (List.mem_append_left _ hq)) e
            · rcases List.mem_cons.mp hp with rfl | hp
              · exact hDA q hq e
              · rw [List.mem_singleton.mp hp] at e
                exact hI q (.tail _ (.tail _ hq)) e
        k_steps
        walk_at "Ends"
        have hcf : cmpF xs ys = false := by
          rw [cmpF, ← List.take_append_drop (i + 1) (dedupF xs), List.foldl_append, htake, rmF, Option.bind_some, if_neg hin2, rm_stay]
        have hr := fun h' tk' => ret h' tk' frs' SU
        simp only [hcf] at hr
        rename Fr _ _ _ _ => F9
        rename News _ _ _ _ => N9
        exact hr _ _ (fun p hp => (N9 p (List.mem_append_right _ hp)).1) F9.keep
  case done =>
    rintro ⟨tv, tn⟩ u h tk ⟨t, hT, ht, htl⟩ F2 N2
    clear F1 N1
    have F3 : Fr (hideAll s.heap (frs.map (·.1))) L' h (fun y => if y = Str.ofString "t" then some (.ref DT) else u y) := F2
    clear F2
    dsimp only at hT N2 htl
    have hwl : wa.length = (dedupF xs).length := hwA
    rw [hwl, List.take_length] at ht
    have hcmp : cmpF xs ys = t.isEmpty := by rw [cmpF, ht]; cases t <;> rfl
    cases t with
    | nil =>
      obtain rfl : tv = [] := by cases hT; rfl
      k_steps
      walk_at "Ends"
      rename Fr _ _ _ _ => F4
      rename News _ _ _ _ => N4
      have hr := fun tk' => ret _ tk' frs (same_refl frs) (fun p hp => (N4 p (.tail _ (.tail _ hp))).1) F4.keep
      simp only [hcmp] at hr
      exact hr _
    | cons y t =>
      obtain ⟨v0, tv, rfl⟩ : ∃ v0 tv', tv = v0 :: tv' := by cases hT; exact ⟨_, _, rfl⟩
      k_steps
      walk_at "Ends"
      rename Fr _ _ _ _ => F4
      rename News _ _ _ _ => N4
      have hr := fun tk' => ret _ tk' frs (same_refl frs) (fun p hp => (N4 p (.tail _ (.tail _ hp))).1) F4.keep
      simp only [hcmp] at hr
      exact hr _
end

end
section
/-- the walk begins anew -/
theorem anewQ10 {M : Model} {A : Around} {E : Value → Shared → Prop} {Q : Value → Shared → Prop} {s : Shared} {env : Env} (h : ∀ v s', Q v s') : wpAny M A (eval (.Constant (.int 0) 0 ⟨0, 0, 0, 0⟩) env) Q E s := by
  w_top off
  first
    | (walk1; exact h _ _)
    | exact wpAny_Constant_int (h _ _)
section
variable {prog : Program} {w : World} {A : Around} {E : Value → Shared → Prop} {s : Shared} {D : Addr} {vs : List Value} {xs : List (List Str)} {v : Value} {y : List Str} {Q : Value → Shared → Prop}
theorem in_lists (hl : s.heap.IsList D vs.toArray) (H : ListsAre s.heap vs xs) (hv : ListIn s.heap v y) (hu : A.units + 1 < cLine)
    (h : Q (.bool (xs.any (· == y))) s) : wpAny (model prog w) A (compareOp .In v (.ref D)) Q E s :=
  SeqAt.in_listAt (isL s.heap y) hl (fun z hz => by
    obtain ⟨x, hx⟩ := H.mem (by simpa using hz)
    rw [isL_of hx]
    exact eqAt_lists hx hv hu) (by rw [← Array.any_toList, show vs.toArray.toList = vs from rfl, any_isL H]; exact h)
theorem isL_at {g : Heap} (H : ListsAre g vs xs) {j : Nat} (h1 : j < vs.length) (h2 : j < xs.length) : isL g y vs[j] = (xs[j] == y) := by
  obtain ⟨x, hx, hi⟩ := H.get (List.getElem?_eq_getElem h1)
  rw [List.getElem?_eq_getElem h2] at hx
  cases hx
  exact isL_of hi
theorem index_lists (hl : s.heap.IsList D vs.toArray) (H : ListsAre s.heap vs xs) (hv : ListIn s.heap v y) (hy : y ∈ xs) (hu : A.units + 1 < cLine) (hsz : vs.length ≤ 1000)
    (h : Q (.int ((xs.idxOf y : Nat) : Int) s.toks) { s with toks := s.toks + 1 }) : wpAny (model prog w) A (call (.builtin "list.index") [.ref D, v]) Q E s := by
  obtain ⟨⟨cls, dd, data, sl⟩, ho, hc, n, hd⟩ := id hl
  simp only at hc hd
  subst hc hd
  have hlen := H.length
  have hj : xs.idxOf y < xs.length := List.idxOf_lt_length_iff.mpr hy
  refine call_meets PySem.F.slot_list_index ⟨_, ho, rfl⟩ PySem.F.entry_list_index (PySem.F.args_list_index_2 _ _)
    (SeqAt.list_indexAt D vs.toArray n dd sl v (isL s.heap y) (xs.idxOf y) (by simpa [hlen] using hj) (by omega) ?_ ?_) ⟨ho, fun z hz => by
    obtain ⟨x, hx⟩ := H.mem (by simpa using hz)
    rw [isL_of hx]
    exact eqAt_lists hx hv (by assumption), h⟩
  · show isL s.heap y vs[xs.idxOf y] = true
    rw [isL_at H (by omega) hj]
    simpa using List.getElem_idxOf hj
  · intro j hjs hlt
    show isL s.heap y vs[j] = false
    rw [isL_at H (by simpa using hjs) (by omega)]
    cases hb : (xs[j]'(by omega) == y) with
    | false => rfl
    | true =>
      have := List.not_of_lt_findIdx (p := (· == y)) (xs := xs) (i := j) hlt
      rw [hb] at this
      simp at this
theorem method_at {n : Nat} {name : Str} {id : String} {pl : Sem Bool} {Q : Value × List Value → Shared → Prop} (ho : s.heap.get? D = some (listOf vs.toArray n)) (slot : Slot "list" name id) (hty : typeOf (.builtin id) = pure (.type "method_descriptor"))
    (h : Q (.builtin id, [.ref D]) s) : wpAny (model prog w) A (getMethod (.ref D) name pl) Q E s :=
  kf_method (h₀ := hideAll s.heap [D]) (L := D + 1) (news := [(D, listOf vs.toArray n)]) (fun p hp => by rw [List.mem_singleton.mp hp]; exact ⟨ho, Nat.ne_of_lt (Nat.lt_succ_self _), hideAll_none _ (.head _)⟩) (.head _) slot hty h
end

end
section
/-- the walk begins anew -/
theorem anewZ0 {M : Model} {A : Around} {E : Value → Shared → Prop} {Q : Value → Shared → Prop} {s : Shared} {env : Env} (h : ∀ v s', Q v s') : wpAny M A (eval (.Constant (.int 0) 0 ⟨0, 0, 0, 0⟩) env) Q E s := by
  w_top off
  first
    | (walk1; exact h _ _)
    | exact wpAny_Constant_int (h _ _)
/-- the lists of one heap stand in another -/
def ListExt (h h' : Heap) : Prop := ∀ b its n, h.get? b = some (listOf its n) → h'.get? b = some (listOf its n)
theorem ListExt.of {h h' : Heap} (k : Ext h h') : ListExt h h' := fun b its n e => k b _ e
theorem ListExt.trans {h h' h'' : Heap} (k : ListExt h h') (l : ListExt h' h'') : ListExt h h'' := fun b its n e => l b its n (k b its n e)
theorem ListIn.lext {g h : Heap} {v : Value} {x : List Str} (H : ListIn g v x) (k : ListExt g h) : ListIn h v x := let ⟨a, vs, n, e, ha, hs⟩ := H; ⟨a, vs, n, e, k _ _ _ ha, hs⟩
theorem ListsAre.lext {g h : Heap} {vs : List Value} {xs : List (List Str)} (H : ListsAre g vs xs) (k : ListExt g h) : ListsAre h vs xs := by
  induction H with
  | nil => exact .nil
  | cons h _ ih => exact .cons (h.lext k) ih
theorem IntsIn.lext {g h : Heap} {v : Value} {x : List Nat} (H : IntsIn g v x) (k : ListExt g h) : IntsIn h v x := let ⟨a, vs, n, e, ha, hs⟩ := H; ⟨a, vs, n, e, k _ _ _ ha, hs⟩
theorem IntLists.lext {g h : Heap} {vs : List Value} {xs : List (List Nat)} (H : IntLists g vs xs) (k : ListExt g h) : IntLists h vs xs := by
  induction H with
  | nil => exact .nil
  | cons h _ ih => exact .cons (h.lext k) ih
/-- law's own body and names -/
noncomputable def lawB (w : World) : List Stmt := match (hd.heap_1 w.params).lookup 216 with
  | some ⟨_, _, .func fd, _⟩ => match fd.body with
    | .stmts b => b
    | _ => []
  | _ => []
noncomputable def lawS (w : World) : Scope := match (hd.heap_1 w.params).lookup 216 with
  | some ⟨_, _, .func fd, _⟩ => fd.scope
  | _ => { kind := .function, names := [], isGenerator := false, isCoroutine := false }
noncomputable def lawSt (w : World) (k : Nat) : Stmt := match (lawB w).drop k with
  | st :: _ => st
  | [] => .Pass ⟨0, 0, 0, 0⟩
noncomputable abbrev lawEnv (w : World) (L f : Addr) (cdv : Value) : Env := envOfC (Str.ofString "law") (lawS w) L f cdv

end
section
/-- the walk begins anew -/
theorem anewZ2 {M : Model} {A : Around} {E : Value → Shared → Prop} {Q : Value → Shared → Prop} {s : Shared} {env : Env} (h : ∀ v s', Q v s') : wpAny M A (eval (.Constant (.int 0) 0 ⟨0, 0, 0, 0⟩) env) Q E s := by
  w_top off
  first
    | (walk1; exact h _ _)
    | exact wpAny_Constant_int (h _ _)
/-- values and data, one by one -/
inductive All2 {α : Type} (P : Value → α → Prop) : List Value → List α → Prop
  | nil : All2 P [] []
  | cons {v x vs xs} : P v x → All2 P vs xs → All2 P (v :: vs) (x :: xs)
theorem All2.mono {α : Type} {P R : Value → α → Prop} {vs : List Value} {xs : List α} (H : All2 P vs xs) (k : ∀ v x, P v x → R v x) : All2 R vs xs := by
  induction H with
  | nil => exact .nil
  | cons h _ ih => exact .cons (k _ _ h) ih
theorem All2.length {α : Type} {P : Value → α → Prop} {vs : List Value} {xs : List α} (H : All2 P vs xs) : vs.length = xs.length := by
  induction H with
  | nil => rfl
  | cons h _ ih => simp [ih]
theorem All2.append {α : Type} {P : Value → α → Prop} {vs ws : List Value} {xs ys : List α} (H : All2 P vs xs) (K : All2 P ws ys) : All2 P (vs ++ ws) (xs ++ ys) := by
  induction H with
  | nil => exact K
  | cons h _ ih => exact .cons h ih
theorem All2.snoc {α : Type} {P : Value → α → Prop} {vs : List Value} {xs : List α} {v : Value} {x : α} (H : All2 P vs xs) (h : P v x) : All2 P (vs ++ [v]) (xs ++ [x]) := H.append (.cons h .nil)
theorem All2.get {α : Type} {P : Value → α → Prop} {vs : List Value} {xs : List α} (H : All2 P vs xs) : ∀ {i : Nat} {v : Value}, vs[i]? = some v → ∃ x, xs[i]? = some x ∧ P v x := by
  induction H with
  | nil => intro i v e; cases e
  | cons h _ ih =>
    intro i v e
    cases i with
    | zero => cases e; exact ⟨_, rfl, h⟩
    | succ i => exact ih e
theorem All2.get' {α : Type} {P : Value → α → Prop} {vs : List Value} {xs : List α} (H : All2 P vs xs) : ∀ {i : Nat} {x : α}, xs[i]? = some x → ∃ v, vs[i]? = some v ∧ P v x := by
  induction H with
  | nil => intro i v e; cases e
  | cons h _ ih =>
    intro i v e
    cases i with
    | zero => cases e; exact ⟨_, rfl, h⟩
    | succ i => exact ih e
theorem All2.rev {α : Type} {P : Value → α → Prop} {vs : List Value} {xs : List α} (H : All2 P vs xs) : All2 P vs.reverse xs.reverse := by
  induction H with
  | nil => exact .nil
  | cons h _ ih => rw [List.reverse_cons, List.reverse_cons]; exact ih.snoc h
theorem All2.lists {h : Heap} {vs : List Value} {xs : List (List Str)} (H : All2 (ListIn h) vs xs) : ListsAre h vs xs := by
  induction H with
  | nil => exact .nil
  | cons a _ ih => exact .cons a ih
theorem All2.ofLists {h : Heap} {vs : List Value} {xs : List (List Str)} (H : ListsAre h vs xs) : All2 (ListIn h) vs xs := by
  induction H with
  | nil => exact .nil
  | cons a _ ih => exact .cons a ih
theorem All2.intLists {h : Heap} {vs : List Value} {xs : List (List Nat)} (H : All2 (IntsIn h) vs xs) : IntLists h vs xs := by
  induction H with
  | nil => exact .nil
  | cons a _ ih => exact .cons a ih
/-- a value is a list that stands in a ledger -/
def InLed {α : Type} (tl : List (Addr × Obj)) (P : List Value → α → Prop) (v : Value) (x : α) : Prop := ∃ a vs n, v = .ref a ∧ (a, listOf vs.toArray n) ∈ tl ∧ P vs x
theorem InLed.more {α : Type} {tl tl' : List (Addr × Obj)} {P : List Value → α → Prop} {v : Value} {x : α} (H : InLed tl P v x) (k : ∀ p ∈ tl, p ∈ tl') : InLed tl' P v x := let ⟨a, vs, n, e, hm, hp⟩ := H; ⟨a, vs, n, e, k _ hm, hp⟩
theorem InLed.listIn {tl : List (Addr × Obj)} {h : Heap} {v : Value} {x : List Str} (H : InLed tl StrsAre v x) (k : ∀ p ∈ tl, h.get? p.1 = some p.2) : ListIn h v x := let ⟨a, vs, n, e, hm, hp⟩ := H; ⟨a, vs, n, e, k _ hm, hp⟩
abbrev NatsAre (vs : List Value) (ns : List Nat) : Prop := IntsAre vs (natInts ns)
theorem InLed.new {α : Type} {tl : List (Addr × Obj)} {P : List Value → α → Prop} {a : Addr} {vs : List Value} {n : Nat} {x : α} (h : P vs x) : InLed ((a, listOf vs.toArray n) :: tl) P (.ref a) x := ⟨a, vs, n, rfl, .head _, h⟩
theorem strs_snoc {vs : List Value} {xs : List Str} (h : StrsAre vs xs) {x : Str} {t : Tok} : StrsAre (vs ++ [.str x t]) (xs ++ [x]) := by
  induction h with
  | nil => exact .cons _ _ .nil
  | cons n u _ ih => exact .cons _ _ ih
theorem strs_get' {vs : List Value} {xs : List Str} (h : StrsAre vs xs) : ∀ {i : Nat} {x : Str}, xs[i]? = some x → ∃ t, vs[i]? = some (.str x t) := by
  induction h with
  | nil => intro i v e; cases e
  | cons n t _ ih =>
    intro i v e
    cases i with
    | zero => cases e; exact ⟨t, rfl⟩
    | succ i => exact ih e
theorem intsAre_get' {vs : List Value} {xs : List Int} (h : IntsAre vs xs) : ∀ {i : Nat} {x : Int}, xs[i]? = some x → ∃ t, vs[i]? = some (.int x t) := by
  induction h with
  | nil => intro i v e; cases e
  | cons n t _ ih =>
    intro i v e
    cases i with
    | zero => cases e; exact ⟨t, rfl⟩
    | succ i => exact ih e
theorem range_map_snoc {α : Type} (f : Nat → α) (i : Nat) : (List.range (i + 1)).map f = (List.range i).map f ++ [f i] := by rw [List.range_succ, List.map_append]; rfl
theorem ns_at {prog : Program} {w : World} {A : Around} {target : Expr} {s s₂ : Shared} {it : Value} {n : Nat} {PI : Nat → Value → List (Addr × Obj) → Prop} {I : Addr} {fp wr : List Addr} {St : Nat → Heap → Prop} {g : Heap} {L : Addr} {m : Str → Option Value}
    (KI : Itr prog w A target s s₂ it n PI I fp wr St) (F : Fr g L s.heap m) : s₂.heap.Ns L m ∧ L ∉ wr := by
  refine ⟨F.ns.keeps KI.ext, fun hm => ?_⟩
  obtain ⟨oL, _, _, h, _⟩ := F.ns
  exact absurd ((KI.fresh _ hm).symm.trans h) (by simp)

end
section
/-- the walk begins anew -/
theorem anewQ11 {M : Model} {A : Around} {E : Value → Shared → Prop} {Q : Value → Shared → Prop} {s : Shared} {env : Env} (h : ∀ v s', Q v s') : wpAny M A (eval (.Constant (.int 0) 0 ⟨0, 0, 0, 0⟩) env) Q E s := by
  w_top off
  first
    | (walk1; exact h _ _)
    | exact wpAny_Constant_int (h _ _)
section
variable {prog : Program} {w : World} {A : Around} {E : Value → Shared → Prop} {s : Shared} {l b : Addr} {vs ws : List Value} {Q : Value → Shared → Prop}
/-- the values of two lists, one by one, are equal -/
def Same (A : Around) (s : Shared) (vs ws : List Value) : Prop := vs.length = ws.length ∧ ∀ (j : Nat) v w, vs[j]? = some v → ws[j]? = some w → SeqAt.EqAt A s v w true
theorem Same.at (H : Same A s vs ws) : ∀ j (h1 : j < vs.toArray.size) (h2 : j < ws.toArray.size), SeqAt.EqAt A s vs.toArray[j] ws.toArray[j] ((fun _ => true) j) := fun j h1 h2 => by
  have e1 : vs[j]? = some vs.toArray[j] := by simp at h1; simp [h1]
  have e2 : ws[j]? = some ws.toArray[j] := by simp at h2; simp [h2]
  exact H.2 j _ _ e1 e2
theorem eqAt_same (hl : s.heap.IsList l vs.toArray) (hb : s.heap.IsList b ws.toArray) (hu : A.units < cLine) (H : Same A.in1 s vs ws) : SeqAt.EqAt A s (.ref l) (.ref b) true := by
  by_cases hlb : l = b
  · subst hlb; exact SeqAt.EqAt.same _
  · have h := SeqAt.RcAt.lists (A := A) (e := fun _ => true) hl hb (by simp [H.1]) hu H.at
    have e : (List.range vs.toArray.size).all (fun _ => true) = true := by simp
    rw [e] at h
    exact SeqAt.EqAt.of_refs hlb h
theorem ne_same (hl : s.heap.IsList l vs.toArray) (hb : s.heap.IsList b ws.toArray) (hu : A.units < cLine) (H : Same A.in1 s vs ws) (h : Q (.bool false) s) : wpAny (model prog w) A (compareOp .NotEq (.ref l) (.ref b)) Q E s := by
  refine cmp_ofNotEq ?_
  have h1 := SeqAt.RcNeAt.lists (A := A) (e := fun _ => true) hl hb (by simp [H.1]) hu H.at
  have e : (!(List.range vs.toArray.size).all (fun _ => true)) = false := by simp
  rw [e] at h1
  exact h1 prog w E Q h
theorem eq_same (hl : s.heap.IsList l vs.toArray) (hb : s.heap.IsList b ws.toArray) (hu : A.units < cLine) (H : Same A.in1 s vs ws) (h : Q (.bool true) s) : wpAny (model prog w) A (compareOp .Eq (.ref l) (.ref b)) Q E s := by
  refine cmp_ofEq ?_
  have h1 := SeqAt.RcAt.lists (A := A) (e := fun _ => true) hl hb (by simp [H.1]) hu H.at
  have e : (List.range vs.toArray.size).all (fun _ => true) = true := by simp
  rw [e] at h1
  exact h1 prog w E Q h
theorem Same.of {α : Type} {P R : Value → α → Prop} {xs : List α} (H : All2 P vs xs) (K : All2 R ws xs) (k : ∀ v w x, P v x → R w x → SeqAt.EqAt A s v w true) : Same A s vs ws := by
  refine ⟨by rw [H.length, K.length], fun j v w hv hw => ?_⟩
  obtain ⟨x, hx, h1⟩ := H.get hv
  obtain ⟨y, hy, h2⟩ := K.get hw
  rw [hx] at hy
  cases hy
  exact k v w x h1 h2
theorem Same.lists {xs : List (List Str)} (H : All2 (ListIn s.heap) vs xs) (K : All2 (ListIn s.heap) ws xs) (hu : A.units < cLine) : Same A s vs ws :=
  Same.of H K fun v w x h1 h2 => by
    have := eqAt_lists h1 h2 hu (A := A)
    rw [beq_self_eq_true] at this
    exact this
end

end
section
/-- the walk begins anew -/
theorem anewQ14 {M : Model} {A : Around} {E : Value → Shared → Prop} {Q : Value → Shared → Prop} {s : Shared} {env : Env} (h : ∀ v s', Q v s') : wpAny M A (eval (.Constant (.int 0) 0 ⟨0, 0, 0, 0⟩) env) Q E s := by
  w_top off
  first
    | (walk1; exact h _ _)
    | exact wpAny_Constant_int (h _ _)
section
variable {prog : Program} {w : World} {A : Around} {E : Value → Shared → Prop} {s : Shared} {l b : Addr} {vs ws : List Value} {xs ys : List Int} {Q : Value → Shared → Prop}
theorem ints_at (h : IntsAre vs xs) : ∀ {i : Nat} {v : Value}, vs[i]? = some v → ∃ x t, v = .int x t ∧ xs[i]? = some x := by
  induction h with
  | nil => intro i v e; cases e
  | cons n t _ ih =>
    intro i v e
    cases i with
    | zero => cases e; exact ⟨n, t, rfl, rfl⟩
    | succ i => exact ih e
theorem eq_ints (hl : s.heap.IsList l vs.toArray) (hb : s.heap.IsList b ws.toArray) (hx : IntsAre vs xs) (hy : IntsAre ws ys) (hu : A.units < cLine) (h : Q (.bool (xs == ys)) s) : wpAny (model prog w) A (compareOp .Eq (.ref l) (.ref b)) Q E s := by
  refine cmp_ofEq ?_
  have hvl := hx.length
  have hwl := hy.length
  by_cases hlen : xs.length = ys.length
  · rw [← range_all_eq xs ys hlen] at h
    have e := SeqAt.RcAt.lists (A := A) (e := fun j => xs[j]? == ys[j]?) hl hb (by simp; omega) hu (fun j h1 h2 => by
      have h1' : j < vs.length := by simpa using h1
      have h2' : j < ws.length := by simpa using h2
      obtain ⟨p, tp, ep, hp⟩ := ints_at hx (List.getElem?_eq_getElem h1')
      obtain ⟨q, tq, eq, hq⟩ := ints_at hy (List.getElem?_eq_getElem h2')
      have e1 : vs.toArray[j] = Value.int p tp := by simpa using ep
      have e2 : ws.toArray[j] = Value.int q tq := by simpa using eq
      rw [e1, e2, hp, hq]
      exact (MeetsSeq.EqGives.int p q tp tq).at _ _)
    have e3 : vs.toArray.size = xs.length := by simp [hvl]
    rw [e3] at e
    exact e prog w E Q h
  · have hf : (xs == ys) = false := by
      cases hb : (xs == ys) with
      | false => rfl
      | true => exact absurd (congrArg List.length (eq_of_beq hb)) hlen
    rw [hf] at h
    exact SeqAt.RcAt.lists_lengths hl hb (by simp only [List.size_toArray, bne_iff_ne, ne_eq]; omega) hu prog w E Q h
theorem sorted_eq {x y : List Nat} {x' y' : List Int} (hx : x'.Perm (natInts x)) (sx : x'.Pairwise (· ≤ ·)) (hy : y'.Perm (natInts y)) (sy : y'.Pairwise (· ≤ ·)) : (x' == y') = x.isPerm y := by
  have key : x' = y' ↔ x.Perm y := by
    constructor
    · intro e
      have h1 : (natInts x).Perm (natInts y) := hx.symm.trans (e ▸ hy)
      have h2 := h1.map Int.toNat
      simpa [natInts, Function.comp_def] using h2
    · intro e
      have h1 : (natInts x).Perm (natInts y) := e.map _
      exact List.Perm.eq_of_pairwise (le := (· ≤ ·)) (fun a b _ _ h1 h2 => Int.le_antisymm h1 h2) sx sy (hx.trans (h1.trans hy.symm))
  rw [Bool.eq_iff_iff, List.isPerm_iff, beq_iff_eq]
  exact key
end

end
section
/-- the walk begins anew -/
theorem anewZ1 {M : Model} {A : Around} {E : Value → Shared → Prop} {Q : Value → Shared → Prop} {s : Shared} {env : Env} (h : ∀ v s', Q v s') : wpAny M A (eval (.Constant (.int 0) 0 ⟨0, 0, 0, 0⟩) env) Q E s := by
  w_top off
  first
    | (walk1; exact h _ _)
    | exact wpAny_Constant_int (h _ _)
local macro_rules | `(tactic| walk_at "call type:zip") => `(tactic| refine Stop.out ?_)
def linkTexts : List Str := [Str.ofString "x", Str.ofString "y", Str.ofString "../b/x", Str.ofString "../c//x", Str.ofString "./..//z", Str.ofString "/a/../z", Str.ofString "../a/./y", Str.ofString "q"]
def digit (n : Int) (j : Nat) : Nat := (n / 8 ^ j % 8).toNat
def rowF (ns : List Int) (k : Nat) : List Str := (List.range (if k = 0 then 4 else 2)).map fun j => linkTexts.getD (digit (ns.getD k 0) j) (Str.ofString "")
theorem pow8_ne (j : Nat) : (8 : Int) ^ ((j : Int)).toNat ≠ 0 := by
  have : (0 : Int) < 8 ^ ((j : Int)).toNat := Int.pow_pos (by decide)
  omega
theorem pow8_small {j : Nat} (h : j < 5) : ((8 : Int) ^ ((j : Int)).toNat).natAbs < 1073741824 := by
  rw [Int.toNat_natCast]
  exact (show ∀ i : Fin 5, ((8 : Int) ^ i.1).natAbs < 1073741824 by decide) ⟨j, h⟩
theorem digit_eq (n : Int) (j : Nat) : Int.fmod (Int.fdiv n (8 ^ ((j : Int)).toNat)) 8 = ((digit n j : Nat) : Int) := by
  have h8 : (0 : Int) < 8 ^ j := Int.pow_pos (by decide)
  rw [Int.toNat_natCast, digit, Int.fdiv_eq_ediv_of_nonneg _ (Int.le_of_lt h8), Int.fmod_eq_emod_of_nonneg _ (by decide)]
  have := Int.emod_nonneg (n / 8 ^ j) (show (8 : Int) ≠ 0 by decide)
  omega
theorem digit_lt (n : Int) (j : Nat) : digit n j < 8 := by
  have := Int.emod_lt_of_pos (n / 8 ^ j) (show (0 : Int) < 8 by decide)
  unfold digit
  omega


local macro_rules | `(tactic| walk_at "subscriptTail Name Name ref int") => `(tactic| (k_here; (with_reducible show wpAny _ _ (subscriptTail _ _ (Value.ref _) (Value.int _ _)) _ _ _); k_dflt (refine' item_at ?o _ ?x ?k ?z ?_; (case o => walk_at "K"); (case k => first | with_reducible rfl | assumption); (case x => assumption); (case z => omega); k_whole)))
local macro_rules | `(tactic| walk_at "subscriptTail") => `(tactic| (k_here; (with_reducible show wpAny _ _ (subscriptTail _ _ (Value.ref _) (Value.int _ _)) _ _ _); k_dflt (refine' item_at ?o _ ?x ?k ?z ?_; (case o => walk_at "K"); (case k => first | with_reducible rfl | assumption); (case x => assumption); (case z => omega); k_whole)))
local macro_rules | `(tactic| walk_at "binaryOp FloorDiv int int") => `(tactic| (k_here; k_dflt (refine' floordiv_int ?a ?_ (Or.inl (PyProof.noPylong_small ?b)); (case a => exact pow8_ne _); (case b => exact pow8_small (by omega)); k_whole); dsimp only))
section
variable {w : World} {mean : ExcName → Option Value} {mg mb : Str → Option Value} {E : Value → Shared → Prop} {Q : Flow → Shared → Prop} {s : Shared} {g0 : Heap} {L f : Addr} {cdv : Value} {m : Str → Option Value} {dp un : Nat} {fr : Option (List Env)} {gd : Option (List Code)}
set_option maxHeartbeats 4000000 in
theorem st_rows {st : Stmt} (hst : lawSt w 3 = st) (W : WF w mean mg mb g0) (F : Fr g0 L s.heap m) {o2 o3 : Obj} {la na : Addr} {lvs nvs : List Value} {ns : List Int} {kl kn : Nat}
    (N : News g0 L s.heap [(L + 1 + 1, o2), (L + 1 + 1 + 1, o3), (la, listOf lvs.toArray kl), (na, listOf nvs.toArray kn)]) (d2 : o2.data = .cell (some (.ref la))) (d3 : o3.data = .cell (some (.ref na)))
    (hl : StrsAre lvs linkTexts) (hn : IntsAre nvs ns) (hlen : ns.length = 5) (hd : dp + 50 < recursionLimit) (hu : un + 400 < cLine)
    (ret : ∀ D vs k h' tk', Fr g0 L h' (fun y => if y = Str.ofString "rows" then some (.ref D) else m y) → (∀ b o, b ≠ L → s.heap.get? b = some o → h'.get? b = some o) → s.heap.get? D = none → h'.get? D = some (listOf vs.toArray k) → All2 (ListIn h') vs ((List.range 5).map (rowF ns)) → Q .next { s with heap := h', toks := tk' }) :
    wpAny (MD w) (Around.deeper ⟨none, dp, fr, gd, un⟩ (lawEnv w L f cdv)) (exec st (lawEnv w L f cdv)) Q E s := by
  subst hst
  obtain ⟨X', T'⟩ := W
  obtain ⟨S, hS⟩ : ∃ S, lawS w = S := ⟨_, rfl⟩
  unfold lawEnv
  rw [hS]
  conv at hS => lhs; whnf
  subst hS
  conv in (lawSt w 3) => whnf
  refine' Assign_ListComp_own (ca := fun n => [(Str.ofString "k", n)]) ?hsw ?hclos rfl ?hnames ?hca ?hca0 ?hy ?hp ?h
  case hsw => with_unfolding_all rfl
  case hclos => with_unfolding_all rfl
  case hnames => decide
  case hca => intro n; with_unfolding_all rfl
  case hca0 => intro n; with_unfolding_all rfl
  case hy => with_unfolding_all rfl
  case hp => with_unfolding_all rfl
  k_steps
  unfold Stop
  refine' iter_range (n := 5) rfl ?ht (by omega) ?hk
  case' hk => intro I fp wr St s₂ KI
  case' hk => have hNs := ns_at KI (m := m) (L := L) (g := g0) F
  case' hk => obtain ⟨hs2, tks2, rfl⟩ := KI.same
  case' hk => refine ⟨I, fp, wr, _, _, St, _, m, hNs.1, hNs.2, comp_at KI (by rw [sizeLine_eq]; omega) (fun i ys tl => All2 (InLed tl StrsAre) ys ((List.range i).map (rowF ns))) .nil ?turn2 ?done2⟩
  case ht => intro I v; with_unfolding_all rfl
  case done2 =>
    rintro D4 ys k tl h5 tk5 hys hDn hk5 hD4 htl hNs5
    have hk5 : ∀ b o, b ≠ L → s.heap.get? b = some o → h5.get? b = some o := fun b o hb e => hk5 b o (fun hm => hb (List.mem_singleton.mp hm)) e
    refine ret D4 ys k h5 tk5 ⟨hNs5, fun b o e => hk5 b o (Nat.ne_of_lt (Nat.lt_of_lt_of_le (Heap.lt_size e) F.above)) (F.keep b o e), F.above⟩ hk5 hDn hD4 (hys.mono fun v x hv => hv.listIn fun p hp => (htl p hp).1)
  case turn2 =>
    rintro D4 C g wr i v tu u X cs ys k tl h5 tk5 E' hg rfl hi ⟨⟨tv, rfl⟩, rfl⟩ hys hoff hX hX2 hcs hlen5 F5 N5
    obtain ⟨oc, v0, rfl, hoc⟩ := cells_one hcs
    have hg : Ext s.heap g := hg
    have g1 := hg _ _ (N _ (.head _)).1
    have g2 := hg _ _ (N _ (.tail _ (.head _))).1
    have g3 := hg _ _ (N _ (.tail _ (.tail _ (.head _)))).1
    have g4 := hg _ _ (N _ (.tail _ (.tail _ (.tail _ (.head _))))).1
    have Xg := X'.keeps fun b o e => hg _ _ (F.keep b o e)
    have Tg := T'.keeps fun b o e => hg _ _ (F.keep b o e)
    have N6 : News g (D4 + 1) h5 ((D4, listOf ys.toArray k) :: (D4 + 1 + 1, oc) :: (tl ++ X)) := N5
    clear N5
    refine assignC_C rfl ?hx2 ?hc2 F5 N6 hoc (Nat.ne_of_lt (Nat.lt_succ_of_lt (Nat.lt_succ_self _))) (fun p hp => ?hr2) ?hh2
    case hx2 => with_unfolding_all rfl
    case hc2 => with_unfolding_all rfl
    case hr2 =>
      rcases List.mem_append.mp hp with hp | hp
      · exact fun e => hoff p hp (.tail _ (List.mem_append_left _ (e ▸ .head _)))
      · have := hX2 p hp
        intro e
        rw [e] at this
        exact absurd (Nat.lt_of_succ_lt (Nat.lt_of_succ_lt this)) (Nat.lt_irrefl _)
    intro h6 oc1 F7 N7 hoc1
    clear F5 N6
    refine wpAny_tests_nil ?_
    clear F N X' T' KI hNs
    k_steps
    unfold Stop
    refine' ListComp_own (ca := fun n => []) ?hclos3 rfl ?hnames3 ?hca3 ?hca03 ?h3
    case hclos3 => with_unfolding_all rfl
    case hnames3 => decide
    case hca3 => intro n; rfl
    case hca03 => intro n; with_unfolding_all rfl
    k_steps
    · rename_i hi0
      unfold Stop
      refine' iter_range (n := 4) rfl ?ht3 (by omega) ?hk3
      case' hk3 => intro I3 fp3 wr3 St3 s₃ KI3
      case' hk3 => obtain ⟨hs3, tks3, rfl⟩ := KI3.same
      case' hk3 => refine ⟨I3, fp3, wr3, _, _, St3, _, comp_at KI3 (by rw [sizeLine_eq]; omega) (fun j zs tl => tl = [] ∧ StrsAre zs ((List.range j).map fun j => linkTexts.getD (digit (ns.getD i 0) j) (Str.ofString ""))) ⟨rfl, .nil⟩ ?turn3 ?done3⟩
      case ht3 => intro I v; with_unfolding_all rfl
      case turn3 =>
        rintro D5 C5 g5' wr5 j v tu u5 X5 cs5 zs k5 tl5 h7 tk7 E5 hg5 rfl hj ⟨⟨tj, rfl⟩, rfl⟩ ⟨rfl, hzs⟩ _ _ _ hcs5 _ F8 N8
        obtain rfl := cells_none hcs5
        have hg5 : Ext h6 g5' := hg5
        have r1 := hg5 _ _ (F7.keep _ _ g1)
        have r2 := hg5 _ _ (F7.keep _ _ g2)
        have r3 := hg5 _ _ (F7.keep _ _ g3)
        have r4 := hg5 _ _ (F7.keep _ _ g4)
        have r5 := hg5 _ _ (N7 _ (.tail _ (.head _))).1
        clear F7 N7
        refine assignC_L rfl ?hx3 F8 N8 ?hh3
        case hx3 => with_unfolding_all rfl
        intro h8 tk8 F9 N9
        clear F8 N8
        refine wpAny_tests_nil ?_
        obtain ⟨nk, hnk⟩ : ∃ x, ns[i]? = some x := ⟨_, List.getElem?_eq_getElem (by omega)⟩
        obtain ⟨tn, htn⟩ := intsAre_get' hn hnk
        have hdg := digit_eq nk j
        have hdl := digit_lt nk j
        have hgd : ns.getD i 0 = nk := by rw [List.getD_eq_getElem?_getD, hnk]; rfl
        obtain ⟨tx, htx⟩ := strs_get' hl (List.getElem?_eq_getElem (show digit nk j < linkTexts.length from digit_lt nk j))
        dsimp only
        k_steps
        rename Fr _ _ _ _ => F11
        rename News _ _ _ _ => N11
        refine EltEnd.mk [] [] F11 N11 (fun p hp => hp) ⟨rfl, fun _ h => nomatch h⟩ (fun _ h => nomatch h) (And.intro rfl ?_)
        rw [range_map_snoc, hgd]
        have e : linkTexts.getD (digit nk j) (Str.ofString "") = linkTexts[digit nk j]'(digit_lt nk j) := by rw [List.getD_eq_getElem?_getD, List.getElem?_eq_getElem (show digit nk j < linkTexts.length from digit_lt nk j)]; rfl
        rw [e]
        rw [hgd] at hzs
        exact strs_snoc hzs
      case done3 =>
        rintro D5 zs k5 tl5 h7 tk7 ⟨rfl, hzs⟩ hDn5 hk7 hD5 _
        have hk7 : Ext h6 h7 := fun b o e => hk7 b o (fun h => nomatch h) e
        have hDn5 : h6.get? D5 = none := hDn5
        have F8 := frExt F7 hk7
        have N8 := newsCons F7 (newsExt N7 hk7) hk7 hDn5 hD5
        refine EltEnd.mk [(D4 + 1 + 1, oc1)] ((D5, listOf zs.toArray k5) :: tl) F8 N8 (fun p hp => ?_) (cells_is hoc1) (hoff.cons (off_new (od := listOf ys.toArray k) (cs := [(D4 + 1 + 1, oc1)]) (rest := []) N7 (cells_is hoc1) hX hDn5)) ?_
        · simp only [List.mem_cons, List.mem_append, List.cons_append, List.nil_append] at hp ⊢
          rcases hp with h | h | h | h | h <;> simp [h]
        · rw [range_map_snoc]
          refine All2.snoc (hys.mono fun v x hv => hv.more fun p hp => .tail _ hp) (InLed.new ?_)
          unfold rowF
          rw [if_pos (by omega)]
          exact hzs
    · rename_i hi0
      unfold Stop
      refine' iter_range (n := 2) rfl ?ht3b (by omega) ?hk3b
      case' hk3b => intro I3 fp3 wr3 St3 s₃ KI3
      case' hk3b => obtain ⟨hs3, tks3, rfl⟩ := KI3.same
      case' hk3b => refine ⟨I3, fp3, wr3, _, _, St3, _, comp_at KI3 (by rw [sizeLine_eq]; omega) (fun j zs tl => tl = [] ∧ StrsAre zs ((List.range j).map fun j => linkTexts.getD (digit (ns.getD i 0) j) (Str.ofString ""))) ⟨rfl, .nil⟩ ?turn3b ?done3b⟩
      case ht3b => intro I v; with_unfolding_all rfl
      case turn3b =>
        rintro D5 C5 g5' wr5 j v tu u5 X5 cs5 zs k5 tl5 h7 tk7 E5 hg5 rfl hj ⟨⟨tj, rfl⟩, rfl⟩ ⟨rfl, hzs⟩ _ _ _ hcs5 _ F8 N8
        obtain rfl := cells_none hcs5
        have hg5 : Ext h6 g5' := hg5
        have r1 := hg5 _ _ (F7.keep _ _ g1)
        have r2 := hg5 _ _ (F7.keep _ _ g2)
        have r3 := hg5 _ _ (F7.keep _ _ g3)
        have r4 := hg5 _ _ (F7.keep _ _ g4)
        have r5 := hg5 _ _ (N7 _ (.tail _ (.head _))).1
        clear F7 N7
        refine assignC_L rfl ?hx3b F8 N8 ?hh3b
        case hx3b => with_unfolding_all rfl
        intro h8 tk8 F9 N9
        clear F8 N8
        refine wpAny_tests_nil ?_
        obtain ⟨nk, hnk⟩ : ∃ x, ns[i]? = some x := ⟨_, List.getElem?_eq_getElem (by omega)⟩
        obtain ⟨tn, htn⟩ := intsAre_get' hn hnk
        have hdg := digit_eq nk j
        have hdl := digit_lt nk j
        have hgd : ns.getD i 0 = nk := by rw [List.getD_eq_getElem?_getD, hnk]; rfl
        obtain ⟨tx, htx⟩ := strs_get' hl (List.getElem?_eq_getElem (show digit nk j < linkTexts.length from digit_lt nk j))
        dsimp only
        k_steps
        rename Fr _ _ _ _ => F11
        rename News _ _ _ _ => N11
        refine EltEnd.mk [] [] F11 N11 (fun p hp => hp) ⟨rfl, fun _ h => nomatch h⟩ (fun _ h => nomatch h) (And.intro rfl ?_)
        rw [range_map_snoc, hgd]
        have e : linkTexts.getD (digit nk j) (Str.ofString "") = linkTexts[digit nk j]'(digit_lt nk j) := by rw [List.getD_eq_getElem?_getD, List.getElem?_eq_getElem (show digit nk j < linkTexts.length from digit_lt nk j)]; rfl
        rw [e]
        rw [hgd] at hzs
        exact strs_snoc hzs
      case done3b =>
        rintro D5 zs k5 tl5 h7 tk7 ⟨rfl, hzs⟩ hDn5 hk7 hD5 _
        have hk7 : Ext h6 h7 := fun b o e => hk7 b o (fun h => nomatch h) e
        have hDn5 : h6.get? D5 = none := hDn5
        have F8 := frExt F7 hk7
        have N8 := newsCons F7 (newsExt N7 hk7) hk7 hDn5 hD5
        refine EltEnd.mk [(D4 + 1 + 1, oc1)] ((D5, listOf zs.toArray k5) :: tl) F8 N8 (fun p hp => ?_) (cells_is hoc1) (hoff.cons (off_new (od := listOf ys.toArray k) (cs := [(D4 + 1 + 1, oc1)]) (rest := []) N7 (cells_is hoc1) hX hDn5)) ?_
        · simp only [List.mem_cons, List.mem_append, List.cons_append, List.nil_append] at hp ⊢
          rcases hp with h | h | h | h | h <;> simp [h]
        · rw [range_map_snoc]
          refine All2.snoc (hys.mono fun v x hv => hv.more fun p hp => .tail _ hp) (InLed.new ?_)
          unfold rowF
          rw [if_neg (by omega)]
          exact hzs
end

/-- the walk begins anew -/
theorem anewZ3 {M : Model} {A : Around} {E : Value → Shared → Prop} {Q : Value → Shared → Prop} {s : Shared} {env : Env} (h : ∀ v s', Q v s') : wpAny M A (eval (.Constant (.int 0) 0 ⟨0, 0, 0, 0⟩) env) Q E s := by
  w_top off
  first
    | (walk1; exact h _ _)
    | exact wpAny_Constant_int (h _ _)
def pageTexts : List Str := [Str.ofString "/a/x", Str.ofString "/a/y", Str.ofString "/b/x", Str.ofString "/c/x", Str.ofString "/z"]
def wayTexts : List (List Str) := [[Str.ofString "a", Str.ofString "x"], [Str.ofString "a", Str.ofString "y"], [Str.ofString "b", Str.ofString "x"], [Str.ofString "c", Str.ofString "x"], [Str.ofString "z"]]
/-- what normpath's contract wants of a text -/
def normOk (x : Str) : Bool :=
  let r := (rootF x).2
  let cs := Txt.split r (Str.ofString "/")
  decide (x.length ≤ 100) && decide (rootF x = (Str.ofString "/", r)) && decide (r.length ≤ 100) && decide (cs.length ≤ 100) && cs.all (fun c => decide (c.length ≤ 100)) && decide ((x.length : Int) ≠ 0) &&
    decide ((Txt.join (Str.ofString "/") (cs.foldl npStep [])).length ≤ 100) && JoinOk (Str.ofString "/") (cs.foldl npStep [])
theorem page_ok : ∀ p ∈ pageTexts, p.length ≤ 100 ∧ (dirF p).length ≤ 100 := by decide +kernel
theorem link_ok : ∀ l ∈ linkTexts, l.length ≤ 100 := by decide +kernel
theorem norm_ok : ∀ p ∈ pageTexts, ∀ l ∈ linkTexts, normOk (joinF (dirF p) l) = true := by decide +kernel
def plain1 (p l : Str) : Str := normF (joinF (dirF p) l)
def plainRow (pr : Str × List Str) : List Str := pr.2.map (plain1 pr.1)
theorem normpath_ok {w : World} {mean : ExcName → Option Value} {mg mb : Str → Option Value} {A : Around} {s : Shared} {E : Value → Shared → Prop} {Q : Value → Shared → Prop} (W : WF w mean mg mb s.heap) {x : Str} {t : Tok} (hx : normOk x = true) (hd : A.depth + 24 < recursionLimit) (hu : A.units + 200 < cLine) (hh : A.handled = none)
   (ret : ∀ v t' h' tk', v = normF x → Ext s.heap h' → Q (.str v t') { s with heap := h', toks := tk' }) :
   wpAny (MD w) A (call (.ref 171) [.str x t]) Q E s := by
  simp only [normOk, Bool.and_eq_true, decide_eq_true_eq, List.all_eq_true] at hx
  obtain ⟨⟨⟨⟨⟨⟨⟨h1, h2⟩, h3⟩, h4⟩, h5⟩, h6⟩, h7⟩, h8⟩ := hx
  exact normpath W h1 h2 h3 h4 h5 h6 h7 h8 hd hu hh ret

/-- the walk begins anew -/
theorem anewZ4 {M : Model} {A : Around} {E : Value → Shared → Prop} {Q : Value → Shared → Prop} {s : Shared} {env : Env} (h : ∀ v s', Q v s') : wpAny M A (eval (.Constant (.int 0) 0 ⟨0, 0, 0, 0⟩) env) Q E s := by
  w_top off
  first
    | (walk1; exact h _ _)
    | exact wpAny_Constant_int (h _ _)
set_option hygiene false in
local macro_rules | `(tactic| walk_at "call ref") => `(tactic| refine Stop.out ?_)
set_option hygiene false in
set_option hygiene false in
theorem zip_take {i : Nat} {ps : List Str} {rows : List (List Str)} {p : Str} {r : List Str} {α : Type} (f : Str × List Str → α) (hp : ps[i]? = some p) (hr : rows[i]? = some r) : ((ps.zip rows).take (i + 1)).map f = ((ps.zip rows).take i).map f ++ [f (p, r)] := by
  have : (ps.zip rows)[i]? = some (p, r) := by rw [List.getElem?_zip_eq_some]; exact ⟨hp, hr⟩
  rw [List.take_add_one, this, List.map_append]; rfl
section
variable {w : World} {mean : ExcName → Option Value} {mg mb : Str → Option Value} {E : Value → Shared → Prop} {Q : Flow → Shared → Prop} {s : Shared} {g0 : Heap} {L f : Addr} {cdv : Value} {m : Str → Option Value} {dp un : Nat} {fr : Option (List Env)} {gd : Option (List Code)}
set_option maxHeartbeats 4000000 in
theorem st_plain {st : Stmt} (hst : lawSt w 4 = st) (W : WF w mean mg mb g0) (F : Fr g0 L s.heap m) {o1 : Obj} {pa ra : Addr} {pvs rvs : List Value} {rows : List (List Str)} {kp kr : Nat}
    (N : News g0 L s.heap [(L + 1, o1), (pa, listOf pvs.toArray kp), (ra, listOf rvs.toArray kr)]) (d1 : o1.data = .cell (some (.ref pa))) (hm : m (Str.ofString "rows") = some (.ref ra))
    (hp : StrsAre pvs pageTexts) (hr : All2 (ListIn s.heap) rvs rows) (hlen : rows.length = 5) (hok : ∀ row ∈ rows, row.length ≤ 4 ∧ ∀ l ∈ row, l ∈ linkTexts) (hd : dp + 50 < recursionLimit) (hu : un + 400 < cLine)
    (ret : ∀ D vs k h' tk', Fr g0 L h' (fun y => if y = Str.ofString "plain" then some (.ref D) else m y) → (∀ b o, b ≠ L → s.heap.get? b = some o → h'.get? b = some o) → s.heap.get? D = none → h'.get? D = some (listOf vs.toArray k) → All2 (ListIn h') vs ((pageTexts.zip rows).map plainRow) → Q .next { s with heap := h', toks := tk' }) :
    wpAny (MD w) (Around.deeper ⟨none, dp, fr, gd, un⟩ (lawEnv w L f cdv)) (exec st (lawEnv w L f cdv)) Q E s := by
  subst hst
  obtain ⟨X', T'⟩ := W
  obtain ⟨S, hS⟩ : ∃ S, lawS w = S := ⟨_, rfl⟩
  unfold lawEnv
  rw [hS]
  conv at hS => lhs; whnf
  subst hS
  conv in (lawSt w 4) => whnf
  refine' Assign_ListComp_own (ca := fun n => [(Str.ofString "page", n)]) ?hsw ?hclos rfl ?hnames ?hca ?hca0 ?hy ?hp ?h
  case hsw => with_unfolding_all rfl
  case hclos => with_unfolding_all rfl
  case hnames => decide
  case hca => intro n; with_unfolding_all rfl
  case hca0 => intro n; with_unfolding_all rfl
  case hy => with_unfolding_all rfl
  case hp => with_unfolding_all rfl
  have F0 : Fr g0 L s.heap m ∧ True := ⟨F, trivial⟩
  have F1 : Fr g0 L s.heap (fun y => if y = Str.ofString "rows" then some (.ref ra) else m y) := frOver (ps := [(Str.ofString "rows", some (.ref ra))]) F ⟨hm, trivial⟩
  clear F
  k_steps
  unfold Stop
  obtain ⟨F, _⟩ := F0
  have hpl := strsAre_len hp
  have hrl := hr.length
  have hpl5 : pageTexts.length = 5 := rfl
  refine' iter_zip rfl (News.get N (.tail _ (.head _))) (News.get N (.tail _ (.tail _ (.head _)))) ?hk
  case' hk => intro I fp wr St s₂ KI
  case' hk => have hNs := ns_at KI (m := m) (L := L) (g := g0) F
  case' hk => obtain ⟨hs2, tks2, rfl⟩ := KI.same
  case' hk => refine ⟨I, fp, wr, _, _, St, _, m, hNs.1, hNs.2, comp_at KI (by rw [sizeLine_eq]; omega) (fun i ys tl => All2 (InLed tl StrsAre) ys (((pageTexts.zip rows).take i).map plainRow)) .nil ?turn2 ?done2⟩
  case done2 =>
    rintro D4 ys k tl h5 tk5 hys hDn hk5 hD4 htl hNs5
    have hk5 : ∀ b o, b ≠ L → s.heap.get? b = some o → h5.get? b = some o := fun b o hb e => hk5 b o (fun hm => hb (List.mem_singleton.mp hm)) e
    refine ret D4 ys k h5 tk5 ⟨hNs5, fun b o e => hk5 b o (Nat.ne_of_lt (Nat.lt_of_lt_of_le (Heap.lt_size e) F.above)) (F.keep b o e), F.above⟩ hk5 hDn hD4 ?_
    rw [List.take_of_length_le (by rw [List.length_zip]; omega)] at hys
    exact hys.mono fun v x hv => hv.listIn fun p hp => (htl p hp).1
  case turn2 =>
    rintro D4 C g wr i v tu u X cs ys k tl h5 tk5 E' hg rfl hi ⟨T, oT, x, y, mT, rfl, rfl, hx, hy, hTc, hTd⟩ hys hoff hX hX2 hcs hlen5 F5 N5
    obtain ⟨oc, v0, rfl, hoc⟩ := cells_one hcs
    obtain ⟨p, tp, rfl, hpi⟩ := strsAre_get hp hx
    obtain ⟨row, hri, ya, yvs, yn, rfl, hya, hyS⟩ := hr.get hy
    have hg : Ext s.heap g := hg
    have g1 := hg _ _ (N _ (.head _)).1
    have g2 := hg _ _ hya
    have Xg := X'.keeps fun b o e => hg _ _ (F.keep b o e)
    have Tg := T'.keeps fun b o e => hg _ _ (F.keep b o e)
    have hpm := List.mem_of_getElem? hpi
    have hrm := hok _ (List.mem_of_getElem? hri)
    have hp1 := (page_ok p hpm).1
    have hp2 := (page_ok p hpm).2
    have N6 : News g (D4 + 1) h5 ((D4, listOf ys.toArray k) :: (D4 + 1 + 1, oc) :: (tl ++ ((T, oT) :: X))) := N5
    clear N5
    refine assignC_TCL rfl rfl ?hx2 ?hc2 ?hb2 F5 N6 hoc (Nat.ne_of_lt (Nat.lt_succ_of_lt (Nat.lt_succ_self _))) (fun p hp => ?hr2) ⟨oT, (N6 (T, oT) (by simp)).1, hTc, mT, hTd⟩ ?hh2
    case hx2 => with_unfolding_all rfl
    case hc2 => with_unfolding_all rfl
    case hb2 => with_unfolding_all rfl
    case hr2 =>
      rcases List.mem_append.mp hp with hp | hp
      · exact fun e => hoff p hp (.tail _ (List.mem_append_left _ (e ▸ .head _)))
      · rcases List.mem_cons.mp hp with rfl | hp
        · intro e
          have e : T = D4 + 1 + 1 := e
          have h1 := (N6 (T, oT) (by simp)).1
          have h2 := (N6 (D4 + 1 + 1, oc) (by simp)).1
          dsimp only at h1 h2
          rw [e, h2] at h1
          cases h1
          rw [hoc] at hTd
          cases hTd
        · have := hX2 p hp
          intro e
          rw [e] at this
          exact absurd (Nat.lt_of_succ_lt (Nat.lt_of_succ_lt this)) (Nat.lt_irrefl _)
    intro h6 tk6 oc1 F7 N7 hoc1
    clear F5 N6
    refine wpAny_tests_nil ?_
    clear F N X' T' KI hNs
    dsimp only
    k_steps
    unfold Stop
    refine' ListComp_own (ca := fun n => []) ?hclos3 rfl ?hnames3 ?hca3 ?hca03 ?h3
    case hclos3 => with_unfolding_all rfl
    case hnames3 => decide
    case hca3 => intro n; rfl
    case hca03 => intro n; with_unfolding_all rfl
    k_steps
    have hyl := strsAre_len hyS
    refine' iter_list (vs := yvs) rfl ?ht3 (F7.keep _ _ g2) ?hk3
    case' hk3 => intro I3 fp3 wr3 St3 s₃ KI3
    case' hk3 => obtain ⟨hs3, tks3, rfl⟩ := KI3.same
    case' hk3 => refine ⟨I3, fp3, wr3, _, _, St3, _, comp_at KI3 (by rw [sizeLine_eq]; omega) (fun j zs tl => tl = [] ∧ StrsAre zs ((row.take j).map (plain1 p))) ⟨rfl, .nil⟩ ?turn3 ?done3⟩
    case ht3 => intro I v; with_unfolding_all rfl
    case turn3 =>
      rintro D5 C5 g5' wr5 j v tu u5 X5 cs5 zs k5 tl5 h7 tk7 E5 hg5 rfl hj ⟨hv, rfl⟩ ⟨rfl, hzs⟩ _ _ _ hcs5 _ F8 N8
      obtain rfl := cells_none hcs5
      have hg5 : Ext h6 g5' := hg5
      have r1 := hg5 _ _ (N7 _ (.tail _ (.head _))).1
      have X5' := Xg.keeps fun b o e => hg5 _ _ (F7.keep b o e)
      have T5' := Tg.keeps fun b o e => hg5 _ _ (F7.keep b o e)
      clear F7 N7 Xg Tg
      obtain ⟨l, tl', rfl, hlj⟩ := strsAre_get hyS hv
      have hl1 := hrm.2 l (List.mem_of_getElem? hlj)
      have hl2 := link_ok l hl1
      have hl3 := norm_ok p hpm l hl1
      refine assignC_L rfl ?hx3 F8 N8 ?hh3
      case hx3 => with_unfolding_all rfl
      intro h8 tk8 F9 N9
      clear F8 N8
      refine wpAny_tests_nil ?_
      dsimp only
      k_steps
      unfold Stop
      rename Fr _ _ _ _ => kF
      rename News _ _ _ _ => kN
      refine' dirname (wf_of (by assumption) (by assumption) kF) ?kl ?kd ?ku ?kh ?_
      case kl => assumption
      case kd => walk_at "D"
      case ku => walk_at "U"
      case kh => exact rfl
      intro v' t' h' tk' hv' e'
      have kF' := frExt kF e'
      have kN' := newsExt kN e'
      clear kF kN
      subst hv'
      try dsimp only
      k_steps
      unfold Stop
      rename Fr _ _ _ _ => kF
      rename News _ _ _ _ => kN
      refine' join (wf_of (by assumption) (by assumption) kF) ?kl ?kl2 ?kd ?ku ?kh ?_
      case kl => assumption
      case kl2 => assumption
      case kd => walk_at "D"
      case ku => walk_at "U"
      case kh => exact rfl
      intro v' t' h' tk' hv' e'
      have kF' := frExt kF e'
      have kN' := newsExt kN e'
      clear kF kN
      subst hv'
      try dsimp only
      k_steps
      unfold Stop
      rename Fr _ _ _ _ => kF
      rename News _ _ _ _ => kN
      refine' normpath_ok (wf_of (by assumption) (by assumption) kF) ?kl ?kd ?ku ?kh ?_
      case kl => assumption
      case kd => walk_at "D"
      case ku => walk_at "U"
      case kh => exact rfl
      intro v' t' h' tk' hv' e'
      have kF' := frExt kF e'
      have kN' := newsExt kN e'
      clear kF kN
      subst hv'
      try dsimp only
      k_steps
      rename Fr _ _ _ _ => F11
      rename News _ _ _ _ => N11
      refine EltEnd.mk [] [] F11 N11 (fun p hp => hp) ⟨rfl, fun _ h => nomatch h⟩ (fun _ h => nomatch h) (And.intro rfl ?_)
      rw [List.take_add_one, hlj, List.map_append]
      exact strs_snoc hzs
    case done3 =>
      rintro D5 zs k5 tl5 h7 tk7 ⟨rfl, hzs⟩ hDn5 hk7 hD5 _
      have hk7 : Ext h6 h7 := fun b o e => hk7 b o (fun h => nomatch h) e
      have hDn5 : h6.get? D5 = none := hDn5
      have F8 := frExt F7 hk7
      have N8 := newsCons F7 (newsExt N7 hk7) hk7 hDn5 hD5
      refine EltEnd.mk [(D4 + 1 + 1, oc1)] ((D5, listOf zs.toArray k5) :: tl) F8 N8 (fun p hp => ?_) (cells_is hoc1) (hoff.cons (off_new (od := listOf ys.toArray k) (cs := [(D4 + 1 + 1, oc1)]) (rest := [(T, oT)]) N7 (cells_is hoc1) hX hDn5)) ?_
      · simp only [List.mem_cons, List.mem_append, List.cons_append, List.nil_append] at hp ⊢
        rcases hp with h | h | h | h | h <;> simp [h]
      · rw [zip_take plainRow hpi hri]
        refine All2.snoc (hys.mono fun v x hv => hv.more fun p hp => .tail _ hp) (InLed.new ?_)
        rw [List.take_of_length_le (by omega)] at hzs
        exact hzs
end

/-- the walk begins anew -/
theorem anewZ5 {M : Model} {A : Around} {E : Value → Shared → Prop} {Q : Value → Shared → Prop} {s : Shared} {env : Env} (h : ∀ v s', Q v s') : wpAny M A (eval (.Constant (.int 0) 0 ⟨0, 0, 0, 0⟩) env) Q E s := by
  w_top off
  first
    | (walk1; exact h _ _)
    | exact wpAny_Constant_int (h _ _)
theorem store_cell {M : Model} {A : Around} {E : Value → Shared → Prop} {Q : Unit → Shared → Prop} {s : Shared} {g0 : Heap} {L c : Addr} {m : Str → Option Value} {env : Env} {x : Str} {o : Obj} {v0 : Option Value} {v : Value} (hk : env.scope.kind = .function) (hx : env.kindOf x = some .cell) (hc : env.cells.lookup x = some c)
    (F : Fr g0 L s.heap m) (N : News g0 L s.heap [(c, o)]) (hd : o.data = .cell v0)
    (h : ∀ h' o', Fr g0 L h' m → News g0 L h' [(c, o')] → o'.data = .cell (some v) → (∀ b ob, b ≠ c → s.heap.get? b = some ob → h'.get? b = some ob) → Q () { s with heap := h' }) : wpAny M A (storeName env x v) Q E s := by
  have hm := N (c, o) (.head _)
  refine wpAny_storeName_cell hk hx hc ⟨o, hm.1, hd⟩ fun h' hv hs => ?_
  obtain ⟨o', ho', hd'⟩ := hv
  refine h h' o' ⟨F.ns.sameBut hs (Ne.symm hm.2.1), fun b ob e => (hs.2 b (fun q => ?_)).trans (F.keep b ob e), F.above⟩ (fun p hp => ?_) hd' fun b ob hb e => (hs.2 b hb).trans e
  · rw [q, hm.2.2] at e; cases e
  · rw [List.mem_singleton.mp hp]; exact ⟨ho', hm.2⟩
def isPage (l : Str) : Bool := pageTexts.any (· == l)
theorem nodup_take {α : Type} {l : List α} (h : l.Nodup) {i : Nat} {p : α} (e : l[i]? = some p) : p ∉ l.take i := by
  intro hm
  obtain ⟨j, hj, hp⟩ := List.mem_take_iff_getElem.mp hm
  obtain ⟨hi, hpi⟩ := List.getElem?_eq_some_iff.mp e
  have := (List.getElem_inj h).mp (hp.trans hpi.symm)
  omega
theorem pages_nodup : pageTexts.Nodup := by decide +kernel
local macro_rules | `(tactic| walk_at "compareOp In str ref") => `(tactic| (k_here; (with_reducible show wpAny _ _ (compareOp CmpOp.In (Value.str _ _) (Value.ref _)) _ _ _); k_dflt (refine' in_strs ?x ?y ?_; (case x => exact ⟨_, Fr.keep (by assumption) _ _ (by assumption), rfl, _, rfl⟩); (case y => assumption); k_whole)))
section
variable {w : World} {mean : ExcName → Option Value} {mg mb : Str → Option Value} {E : Value → Shared → Prop} {Q : Flow → Shared → Prop} {s : Shared} {g0 : Heap} {L f : Addr} {cdv : Value} {m : Str → Option Value} {dp un : Nat} {fr : Option (List Env)} {gd : Option (List Code)}
set_option maxHeartbeats 4000000 in
theorem st_leads {st : Stmt} (hst : lawSt w 5 = st) (W : WF w mean mg mb g0) (F : Fr g0 L s.heap m) {o1 o4 : Obj} {v4 : Option Value} {pa ra : Addr} {pvs rvs : List Value} {rows : List (List Str)} {kp kr : Nat}
    (N : News g0 L s.heap [(L + 1, o1), (L + 1 + 1 + 1 + 1, o4), (pa, listOf pvs.toArray kp), (ra, listOf rvs.toArray kr)]) (d1 : o1.data = .cell (some (.ref pa))) (d4 : o4.data = .cell v4) (hm : m (Str.ofString "plain") = some (.ref ra))
    (hp : StrsAre pvs pageTexts) (hr : All2 (ListIn s.heap) rvs rows) (hlen : rows.length = 5) (hok : ∀ row ∈ rows, row.length ≤ 4) (hd : dp + 50 < recursionLimit) (hu : un + 400 < cLine)
    (ret : ∀ D h' tk' o', Fr g0 L h' m → News g0 L h' [(L + 1 + 1 + 1 + 1, o')] → o'.data = .cell (some (.ref D)) → (∀ b o, b ≠ L + 1 + 1 + 1 + 1 → s.heap.get? b = some o → h'.get? b = some o) → s.heap.get? D = none →
      (∃ kvs, h'.DictOf (PySem.strKind PySem.Challenge.rw_ik0054_01.row.prog w) D kvs ∧ ∀ (i : Nat) p row, pageTexts[i]? = some p → rows[i]? = some row → ∃ gl gvs gn, valueAt kvs p = some (.ref gl) ∧ h'.get? gl = some (listOf gvs.toArray gn) ∧ StrsAre gvs (row.filter isPage)) → Q .next { s with heap := h', toks := tk' }) :
    wpAny (MD w) (Around.deeper ⟨none, dp, fr, gd, un⟩ (lawEnv w L f cdv)) (exec st (lawEnv w L f cdv)) Q E s := by
  subst hst
  obtain ⟨X', T'⟩ := W
  obtain ⟨S, hS⟩ : ∃ S, lawS w = S := ⟨_, rfl⟩
  unfold lawEnv
  rw [hS]
  conv at hS => lhs; whnf
  subst hS
  conv in (lawSt w 5) => whnf
  refine' wpAny_Assign_Name ?hA ?hsw
  case hsw => with_unfolding_all rfl
  refine' DictComp_own (knd := PySem.strKind PySem.Challenge.rw_ik0054_01.row.prog w) (ca := fun n => []) ?hclos rfl ?hnames ?hca ?hca0 ?h
  case hclos => with_unfolding_all rfl
  case hnames => decide
  case hca => intro n; rfl
  case hca0 => intro n; with_unfolding_all rfl
  have F0 : Fr g0 L s.heap m ∧ True := ⟨F, trivial⟩
  have F1 : Fr g0 L s.heap (fun y => if y = Str.ofString "plain" then some (.ref ra) else m y) := frOver (ps := [(Str.ofString "plain", some (.ref ra))]) F ⟨hm, trivial⟩
  clear F
  k_steps
  unfold Stop
  obtain ⟨F, _⟩ := F0
  have hpl := strsAre_len hp
  have hrl := hr.length
  have hpl5 : pageTexts.length = 5 := rfl
  refine' iter_zip rfl (News.get N (.tail _ (.tail _ (.head _)))) (News.get N (.tail _ (.tail _ (.tail _ (.head _))))) ?hk
  case' hk => intro I fp wr St s₂ KI
  case' hk => obtain ⟨hs2, tks2, rfl⟩ := KI.same
  case' hk => refine ⟨I, fp, wr, _, _, St, _, comp_atD KI (by rw [sizeLine_eq]; omega) (fun i ys tl => ys.map (·.1) = pageTexts.take i ∧ All2 (InLed tl StrsAre) (ys.map (·.2)) ((rows.take i).map fun row => row.filter isPage)) ⟨rfl, .nil⟩ ?turn2 ?done2⟩
  case done2 =>
    rintro D4 ys tl h5 tk5 ⟨hks, hys⟩ hDn hk5 hD4 htl
    have hk5 : Ext s.heap h5 := fun b o e => hk5 b o (fun h => nomatch h) e
    have F5 := frExt F hk5
    have hc := N (L + 1 + 1 + 1 + 1, o4) (by simp)
    have N5 : News g0 L h5 [(L + 1 + 1 + 1 + 1, o4)] := fun p hp => by rw [List.mem_singleton.mp hp]; exact ⟨hk5 _ _ hc.1, hc.2⟩
    have hDn : s.heap.get? D4 = none := hDn
    refine store_cell rfl ?hx ?hcc F5 N5 d4 fun h6 o6 F6 N6 d6 k6 => ?_
    case hx => with_unfolding_all rfl
    case hcc => with_unfolding_all rfl
    refine ret D4 h6 _ o6 F6 N6 d6 (fun b o hb e => k6 b o hb (hk5 b o e)) hDn ⟨ys, hD4.at fun o e => k6 _ _ (fun q => ?_) e, fun i p row hpi hri => ?_⟩
    · rw [q, hc.1] at hDn; cases hDn
    · have hi : i < 5 := by
        have := (List.getElem?_eq_some_iff.mp hri).1
        omega
      rw [List.take_of_length_le (by omega)] at hks hys
      have hrow : (rows.map fun row => row.filter isPage)[i]? = some (row.filter isPage) := by rw [List.getElem?_map, hri]; rfl
      obtain ⟨v, hv, a, vs, n, rfl, hmem, hvs⟩ := hys.get' hrow
      have hy : ys[i]? = some (p, .ref a) := by
        have h1 : (ys.map (·.1))[i]? = some p := by rw [hks]; exact hpi
        rw [List.getElem?_map] at h1 hv
        cases hq : ys[i]? with
        | none => rw [hq] at h1; cases h1
        | some y =>
          obtain ⟨y1, y2⟩ := y
          rw [hq] at h1 hv
          simp only [Option.map_some, Option.some.injEq] at h1 hv
          rw [h1, hv]
      have ht := htl _ hmem
      refine ⟨a, vs, n, valueAt_of_get (by rw [hks]; exact pages_nodup) hy, k6 _ _ (fun q => ?_) ht.1, hvs⟩
      have ht2 : s.heap.get? a = none := ht.2.1
      rw [q, hc.1] at ht2; cases ht2
  case turn2 =>
    rintro D4 C g wr i v tu u X cs ys od tl h5 tk5 E' hg rfl hi ⟨T, oT, x, y, mT, rfl, rfl, hx, hy, hTc, hTd⟩ ⟨hks, hys⟩ hoff hX hX2 hcs hlen5 F5 N5
    obtain rfl := cells_none hcs
    obtain ⟨p, tp, rfl, hpi⟩ := strsAre_get hp hx
    obtain ⟨row, hri, ya, yvs, yn, rfl, hya, hyS⟩ := hr.get hy
    have hg : Ext s.heap g := hg
    have g1 := hg _ _ (N _ (.head _)).1
    have g2 := hg _ _ hya
    have g3 := hg _ _ (N _ (.tail _ (.tail _ (.head _)))).1
    have Xg := X'.keeps fun b o e => hg _ _ (F.keep b o e)
    have Tg := T'.keeps fun b o e => hg _ _ (F.keep b o e)
    have hrm := hok _ (List.mem_of_getElem? hri)
    have N6 : News g (D4 + 1) h5 ((D4, od) :: (tl ++ ((T, oT) :: X))) := N5
    clear N5
    refine assignC_TLL rfl rfl ?hx2 ?hb2 F5 N6 ⟨oT, (N6 (T, oT) (by simp)).1, hTc, mT, hTd⟩ ?hh2
    case hx2 => with_unfolding_all rfl
    case hb2 => with_unfolding_all rfl
    intro h6 tk6 F7 N7
    clear F5 N6
    refine wpAny_tests_nil ?_
    clear F N X' T' KI F1
    dsimp only
    k_steps
    unfold Stop
    refine' ListComp_own (ca := fun n => []) ?hclos3 rfl ?hnames3 ?hca3 ?hca03 ?h3
    case hclos3 => with_unfolding_all rfl
    case hnames3 => decide
    case hca3 => intro n; rfl
    case hca03 => intro n; with_unfolding_all rfl
    k_steps
    have hyl := strsAre_len hyS
    refine' iter_list (vs := yvs) rfl ?ht3 (F7.keep _ _ g2) ?hk3
    case' hk3 => intro I3 fp3 wr3 St3 s₃ KI3
    case' hk3 => obtain ⟨hs3, tks3, rfl⟩ := KI3.same
    case' hk3 => refine ⟨I3, fp3, wr3, _, _, St3, _, comp_at KI3 (by rw [sizeLine_eq]; omega) (fun j zs tl => tl = [] ∧ StrsAre zs ((row.take j).filter isPage)) ⟨rfl, .nil⟩ ?turn3 ?done3⟩
    case ht3 => intro I v; with_unfolding_all rfl
    case turn3 =>
      rintro D5 C5 g5' wr5 j v tu u5 X5 cs5 zs k5 tl5 h7 tk7 E5 hg5 rfl hj ⟨hv, rfl⟩ ⟨rfl, hzs⟩ _ _ _ hcs5 _ F8 N8
      obtain rfl := cells_none hcs5
      have hg5 : Ext h6 g5' := hg5
      have r1 := hg5 _ _ (F7.keep _ _ g1)
      have r3 := hg5 _ _ (F7.keep _ _ g3)
      have X5' := Xg.keeps fun b o e => hg5 _ _ (F7.keep b o e)
      have T5' := Tg.keeps fun b o e => hg5 _ _ (F7.keep b o e)
      clear F7 N7 Xg Tg
      obtain ⟨l, tl', rfl, hlj⟩ := strsAre_get hyS hv
      refine assignC_L rfl ?hx3 F8 N8 ?hh3
      case hx3 => with_unfolding_all rfl
      intro h8 tk8 F9 N9
      clear F8 N8
      refine wpAny_tests_one ?_
      dsimp only
      have htk : (row.take (j + 1)).filter isPage = (row.take j).filter isPage ++ (if isPage l then [l] else []) := by
        rw [List.take_add_one, hlj, List.filter_append]
        show _ ++ [l].filter isPage = _
        rw [List.filter_cons]
        rfl
      k_steps
      · rename_i hct
        have hct : isPage l = true := hct
        rename Fr _ _ _ _ => F11
        rename News _ _ _ _ => N11
        refine EltEnd.mk [] [] F11 N11 (fun p hp => hp) ⟨rfl, fun _ h => nomatch h⟩ (fun _ h => nomatch h) (And.intro rfl ?_)
        rw [htk, if_pos hct]
        exact strs_snoc hzs
      · rename_i hct
        have hct : isPage l = false := hct
        rename Fr _ _ _ _ => F11
        rename News _ _ _ _ => N11
        refine EltEnd.mk [] [] F11 N11 (fun p hp => hp) ⟨rfl, fun _ h => nomatch h⟩ (fun _ h => nomatch h) (And.intro rfl ?_)
        rw [htk, if_neg (by rw [hct]; decide), List.append_nil]
        exact hzs
    case done3 =>
      rintro D5 zs k5 tl5 h7 tk7 ⟨rfl, hzs⟩ hDn5 hk7 hD5 _
      have hk7 : Ext h6 h7 := fun b o e => hk7 b o (fun h => nomatch h) e
      have hDn5 : h6.get? D5 = none := hDn5
      have F8 := frExt F7 hk7
      have N8 := newsCons F7 (newsExt N7 hk7) hk7 hDn5 hD5
      refine ⟨p, ?_, h7, tk7, _, [], ((D5, listOf zs.toArray k5) :: tl), _, rfl, F8, N8, (fun p hp => ?_), ⟨rfl, fun _ h => nomatch h⟩, (hoff.cons (off_new (ca := []) (od := od) (cs := []) (rest := [(T, oT)]) N7 ⟨rfl, fun _ h => nomatch h⟩ hX hDn5)), ?_⟩
      · simp [PySem.strKind, Value.isStrOf]
      · simp only [List.mem_cons, List.mem_append, List.cons_append, List.nil_append] at hp ⊢
        rcases hp with h | h | h | h <;> simp [h]
      · have habs : valueAt ys p = none := valueAt_none_of_not_mem (by rw [hks]; exact nodup_take pages_nodup hpi)
        rw [stored_absent habs, List.map_append, List.map_append, hks]
        refine ⟨by rw [List.take_add_one, hpi]; rfl, ?_⟩
        rw [List.take_add_one, hri, List.map_append]
        refine All2.snoc (hys.mono fun v x hv => hv.more fun p hp => .tail _ hp) (InLed.new ?_)
        rw [List.take_of_length_le (by omega)] at hzs
        exact hzs
end

/-- the walk begins anew -/
theorem anewZ6 {M : Model} {A : Around} {E : Value → Shared → Prop} {Q : Value → Shared → Prop} {s : Shared} {env : Env} (h : ∀ v s', Q v s') : wpAny M A (eval (.Constant (.int 0) 0 ⟨0, 0, 0, 0⟩) env) Q E s := by
  w_top off
  first
    | (walk1; exact h _ _)
    | exact wpAny_Constant_int (h _ _)
theorem ledger_all {g h : Heap} {L : Addr} {m : Str → Option Value} (F : Fr g L h m) : ∃ Z, News g L h Z ∧ ∀ b o, b ≠ L → h.get? b = some o → g.get? b = some o ∨ (b, o) ∈ Z := by
  refine ⟨objsAt h ((List.range h.objs.size).filter fun b => decide (b ≠ L ∧ g.get? b = none)), fun p hp => ?_, fun b o hb e => ?_⟩
  · obtain ⟨h1, h2⟩ := mem_objsAt.mp hp
    have := of_decide_eq_true (List.mem_filter.mp h1).2
    exact ⟨h2, this.1, this.2⟩
  · cases hq : g.get? b with
    | some o' => rw [F.keep _ _ hq] at e; exact .inl e
    | none => exact .inr (mem_objsAt.mpr ⟨List.mem_filter.mpr ⟨List.mem_range.mpr (Heap.lt_size e), decide_eq_true ⟨hb, hq⟩⟩, e⟩)
theorem keep_all {g h h' : Heap} {L : Addr} {m' : Str → Option Value} {Z news : List (Addr × Obj)} (hZ : ∀ b o, b ≠ L → h.get? b = some o → g.get? b = some o ∨ (b, o) ∈ Z) (F' : Fr g L h' m') (N' : News g L h' news) (hs : ∀ p ∈ Z, p ∈ news) : ∀ b o, b ≠ L → h.get? b = some o → h'.get? b = some o := fun b o hb e => by
  rcases hZ b o hb e with h1 | h1
  · exact F'.keep _ _ h1
  · exact (N' _ (hs _ h1)).1
theorem list_ne_cell {h : Heap} {b c : Addr} {its : Array Value} {n : Nat} {o : Obj} {v : Option Value} (hb : h.get? b = some (listOf its n)) (hc : h.get? c = some o) (hd : o.data = .cell v) : b ≠ c := fun q => by
  rw [q, hc] at hb
  cases hb
  cases hd
local macro_rules | `(tactic| walk_at "storeName") => `(tactic| refine Stop.out ?_)
section
variable {w : World} {mean : ExcName → Option Value} {mg mb : Str → Option Value} {E : Value → Shared → Prop} {Q : Flow → Shared → Prop} {s : Shared} {g0 : Heap} {L f : Addr} {cdv : Value} {m : Str → Option Value} {dp un : Nat} {fr : Option (List Env)} {gd : Option (List Code)}
set_option maxHeartbeats 4000000 in
theorem st_ways {st : Stmt} (hst : lawSt w 6 = st) (W : WF w mean mg mb g0) (F : Fr g0 L s.heap m) {o5 : Obj} {v5 : Option Value}
    (N : News g0 L s.heap [(L + 1 + 1 + 1 + 1 + 1, o5)]) (d5 : o5.data = .cell v5) (hd : dp + 50 < recursionLimit) (hu : un + 400 < cLine)
    (ret : ∀ D vs k h' tk' o', Fr g0 L h' m → News g0 L h' [(L + 1 + 1 + 1 + 1 + 1, o')] → o'.data = .cell (some (.ref D)) → (∀ b o, b ≠ L → b ≠ L + 1 + 1 + 1 + 1 + 1 → s.heap.get? b = some o → h'.get? b = some o) → h'.get? D = some (listOf vs.toArray k) → g0.get? D = none →
      All2 (ListIn h') vs wayTexts → Q .next { s with heap := h', toks := tk' }) :
    wpAny (MD w) (Around.deeper ⟨none, dp, fr, gd, un⟩ (lawEnv w L f cdv)) (exec st (lawEnv w L f cdv)) Q E s := by
  subst hst
  obtain ⟨X', T'⟩ := W
  obtain ⟨S, hS⟩ : ∃ S, lawS w = S := ⟨_, rfl⟩
  unfold lawEnv
  rw [hS]
  conv at hS => lhs; whnf
  subst hS
  conv in (lawSt w 6) => whnf
  obtain ⟨Z, NZ, hZ⟩ := ledger_all F
  have hc := (N _ (.head _))
  refine' wpAny_Assign_Name ?hA ?hsw
  case hsw => with_unfolding_all rfl
  clear N
  k_steps
  unfold Stop
  rename Fr _ _ _ _ => F1
  rename News _ _ _ _ => N1
  rename_i e1 _ _ e2 _ _ e3 _ _ e4 _ _ e5 _ _ D _ _
  have hk := keep_all hZ F1 N1 (fun p hp => by simp [hp])
  have N2 : News g0 L _ [(L + 1 + 1 + 1 + 1 + 1, o5)] := fun p hp => by rw [List.mem_singleton.mp hp]; exact ⟨hk _ _ hc.2.1 hc.1, hc.2⟩
  refine store_cell rfl ?hx ?hcc F1 N2 d5 fun h6 o6 F6 N6 d6 k6 => ?_
  case hx => with_unfolding_all rfl
  case hcc => with_unfolding_all rfl
  have g0' := k6 D _ (list_ne_cell (N1 _ (.head _)).1 (N2 _ (.head _)).1 d5) (N1 _ (.head _)).1
  have g1 := k6 e1 _ (list_ne_cell (N1 _ (.tail _ (.tail _ (.tail _ (.tail _ (.tail _ (.head _))))))).1 (N2 _ (.head _)).1 d5) (N1 _ (.tail _ (.tail _ (.tail _ (.tail _ (.tail _ (.head _))))))).1
  have g2 := k6 e2 _ (list_ne_cell (N1 _ (.tail _ (.tail _ (.tail _ (.tail _ (.head _)))))).1 (N2 _ (.head _)).1 d5) (N1 _ (.tail _ (.tail _ (.tail _ (.tail _ (.head _)))))).1
  have g3 := k6 e3 _ (list_ne_cell (N1 _ (.tail _ (.tail _ (.tail _ (.head _))))).1 (N2 _ (.head _)).1 d5) (N1 _ (.tail _ (.tail _ (.tail _ (.head _))))).1
  have g4 := k6 e4 _ (list_ne_cell (N1 _ (.tail _ (.tail _ (.head _)))).1 (N2 _ (.head _)).1 d5) (N1 _ (.tail _ (.tail _ (.head _)))).1
  have g5 := k6 e5 _ (list_ne_cell (N1 _ (.tail _ (.head _))).1 (N2 _ (.head _)).1 d5) (N1 _ (.tail _ (.head _))).1
  refine ret D [.ref e1, .ref e2, .ref e3, .ref e4, .ref e5] 0 h6 _ o6 F6 N6 d6 (fun b o hb hb2 e => k6 b o hb2 (hk b o hb e)) g0' (N1 _ (.head _)).2.2 ?_
  exact .cons ⟨e1, _, _, rfl, g1, .cons _ _ (.cons _ _ .nil)⟩ (.cons ⟨e2, _, _, rfl, g2, .cons _ _ (.cons _ _ .nil)⟩ (.cons ⟨e3, _, _, rfl, g3, .cons _ _ (.cons _ _ .nil)⟩ (.cons ⟨e4, _, _, rfl, g4, .cons _ _ (.cons _ _ .nil)⟩ (.cons ⟨e5, _, _, rfl, g5, .cons _ _ .nil⟩ .nil))))
end

/-- the walk begins anew -/
theorem anewZ7 {M : Model} {A : Around} {E : Value → Shared → Prop} {Q : Value → Shared → Prop} {s : Shared} {env : Env} (h : ∀ v s', Q v s') : wpAny M A (eval (.Constant (.int 0) 0 ⟨0, 0, 0, 0⟩) env) Q E s := by
  w_top off
  first
    | (walk1; exact h _ _)
    | exact wpAny_Constant_int (h _ _)
def edgeRow (pr : List Str × List Str) : List Nat := ((pr.2.map (goalF pr.1)).filter fun g => wayTexts.any (· == g)).map fun g => wayTexts.idxOf g
theorem zip_take2 {i : Nat} {ps : List (List Str)} {rows : List (List Str)} {p : List Str} {r : List Str} {α : Type} (f : List Str × List Str → α) (hp : ps[i]? = some p) (hr : rows[i]? = some r) : ((ps.zip rows).take (i + 1)).map f = ((ps.zip rows).take i).map f ++ [f (p, r)] := by
  have : (ps.zip rows)[i]? = some (p, r) := by rw [List.getElem?_zip_eq_some]; exact ⟨hp, hr⟩
  rw [List.take_add_one, this, List.map_append]; rfl
theorem link_ok2 : ∀ l ∈ linkTexts, l.length ≤ 1000 ∧ (Txt.split l (Str.ofString "/")).length ≤ 100 := by decide +kernel
theorem way_ok : ∀ x ∈ wayTexts, x.length ≤ 10 := by decide +kernel
local macro_rules | `(tactic| walk_at "call builtin:list.index") => `(tactic| refine Stop.out ?_)
local macro_rules | `(tactic| walk_at "getMethod ref") => `(tactic| (k_here; (with_reducible show wpAny _ _ (getMethod (Value.ref _) (Str.ofString "index") _) _ _ _); k_dflt (refine' method_at ?o PySem.F.slot_list_index PySem.F.type_list_index ?_; (case o => walk_at "K"))))
local macro_rules | `(tactic| walk_at "compareOp In ref ref") => `(tactic| refine Stop.out ?_)
section
variable {w : World} {mean : ExcName → Option Value} {mg mb : Str → Option Value} {E : Value → Shared → Prop} {Q : Flow → Shared → Prop} {s : Shared} {g0 : Heap} {L f : Addr} {cdv : Value} {m : Str → Option Value} {dp un : Nat} {fr : Option (List Env)} {gd : Option (List Code)}
set_option maxHeartbeats 4000000 in
theorem st_edges {st : Stmt} (hst : lawSt w 7 = st) (W : WF w mean mg mb g0) (F : Fr g0 L s.heap m) {o5 o6 : Obj} {v6 : Option Value} {wa ra : Addr} {wvs rvs : List Value} {rows : List (List Str)} {kp kr : Nat}
    (N : News g0 L s.heap [(L + 1 + 1 + 1 + 1 + 1, o5), (L + 1 + 1 + 1 + 1 + 1 + 1, o6), (wa, listOf wvs.toArray kp), (ra, listOf rvs.toArray kr)]) (d5 : o5.data = .cell (some (.ref wa))) (d6 : o6.data = .cell v6) (hm : m (Str.ofString "rows") = some (.ref ra))
    (hp : All2 (ListIn s.heap) wvs wayTexts) (hr : All2 (ListIn s.heap) rvs rows) (hlen : rows.length = 5) (hok : ∀ row ∈ rows, row.length ≤ 4 ∧ ∀ l ∈ row, l ∈ linkTexts) (hd : dp + 50 < recursionLimit) (hu : un + 400 < cLine)
    (ret : ∀ D vs k h' tk' o', Fr g0 L h' m → News g0 L h' [(L + 1 + 1 + 1 + 1 + 1 + 1, o')] → o'.data = .cell (some (.ref D)) → (∀ b o, b ≠ L + 1 + 1 + 1 + 1 + 1 + 1 → s.heap.get? b = some o → h'.get? b = some o) → s.heap.get? D = none →
      h'.get? D = some (listOf vs.toArray k) → All2 (IntsIn h') vs ((wayTexts.zip rows).map edgeRow) → Q .next { s with heap := h', toks := tk' }) :
    wpAny (MD w) (Around.deeper ⟨none, dp, fr, gd, un⟩ (lawEnv w L f cdv)) (exec st (lawEnv w L f cdv)) Q E s := by
  subst hst
  obtain ⟨X', T'⟩ := W
  obtain ⟨S, hS⟩ : ∃ S, lawS w = S := ⟨_, rfl⟩
  unfold lawEnv
  rw [hS]
  conv at hS => lhs; whnf
  subst hS
  conv in (lawSt w 7) => whnf
  refine' wpAny_Assign_Name ?hA ?hsw
  case hsw => with_unfolding_all rfl
  refine' ListComp_own (ca := fun n => [(Str.ofString "way", n)]) ?hclos rfl ?hnames ?hca ?hca0 ?h
  case hclos => with_unfolding_all rfl
  case hnames => decide
  case hca => intro n; with_unfolding_all rfl
  case hca0 => intro n; with_unfolding_all rfl
  have F0 : Fr g0 L s.heap m ∧ True := ⟨F, trivial⟩
  have F1 : Fr g0 L s.heap (fun y => if y = Str.ofString "rows" then some (.ref ra) else m y) := frOver (ps := [(Str.ofString "rows", some (.ref ra))]) F ⟨hm, trivial⟩
  clear F
  k_steps
  unfold Stop
  obtain ⟨F, _⟩ := F0
  have hpl := hp.length
  have hrl := hr.length
  have hpl5 : wayTexts.length = 5 := rfl
  refine' iter_zip rfl (News.get N (.tail _ (.tail _ (.head _)))) (News.get N (.tail _ (.tail _ (.tail _ (.head _))))) ?hk
  case' hk => intro I fp wr St s₂ KI
  case' hk => obtain ⟨hs2, tks2, rfl⟩ := KI.same
  case' hk => refine ⟨I, fp, wr, _, _, St, _, comp_at KI (by rw [sizeLine_eq]; omega) (fun i ys tl => All2 (InLed tl NatsAre) ys (((wayTexts.zip rows).take i).map edgeRow)) .nil ?turn2 ?done2⟩
  case done2 =>
    rintro D4 ys k tl h5 tk5 hys hDn hk5 hD4 htl
    have hk5 : Ext s.heap h5 := fun b o e => hk5 b o (fun h => nomatch h) e
    have F5 := frExt F hk5
    have hc := N (L + 1 + 1 + 1 + 1 + 1 + 1, o6) (by simp)
    have N5 : News g0 L h5 [(L + 1 + 1 + 1 + 1 + 1 + 1, o6)] := fun p hp => by rw [List.mem_singleton.mp hp]; exact ⟨hk5 _ _ hc.1, hc.2⟩
    have hDn : s.heap.get? D4 = none := hDn
    refine store_cell rfl ?hx ?hcc F5 N5 d6 fun h6 o7 F6 N6 d7 k6 => ?_
    case hx => with_unfolding_all rfl
    case hcc => with_unfolding_all rfl
    refine ret D4 ys k h6 _ o7 F6 N6 d7 (fun b o hb e => k6 b o hb (hk5 b o e)) hDn (k6 _ _ (list_ne_cell hD4 (N5 _ (.head _)).1 d6) hD4) ?_
    rw [List.take_of_length_le (by rw [List.length_zip]; omega)] at hys
    refine hys.mono fun v x hv => ?_
    obtain ⟨a, vs, n, rfl, hmem, hvs⟩ := hv
    exact ⟨a, vs, n, rfl, k6 _ _ (list_ne_cell (htl _ hmem).1 (N5 _ (.head _)).1 d6) (htl _ hmem).1, hvs⟩
  case turn2 =>
    rintro D4 C g wr i v tu u X cs ys k tl h5 tk5 E' hg rfl hi ⟨T, oT, x, y, mT, rfl, rfl, hx, hy, hTc, hTd⟩ hys hoff hX hX2 hcs hlen5 F5 N5
    obtain ⟨oc, v0, rfl, hoc⟩ := cells_one hcs
    obtain ⟨p, hpi, pa, pvs, pn, rfl, hpa, hpS⟩ := hp.get hx
    obtain ⟨row, hri, ya, yvs, yn, rfl, hya, hyS⟩ := hr.get hy
    have hg : Ext s.heap g := hg
    have g1 := hg _ _ (N _ (.head _)).1
    have g2 := hg _ _ hya
    have g3 := hg _ _ (N _ (.tail _ (.tail _ (.head _)))).1
    have g4 := hg _ _ hpa
    have gL : ListsAre g wvs wayTexts := (hp.lists).ext hg
    have Xg := X'.keeps fun b o e => hg _ _ (F.keep b o e)
    have Tg := T'.keeps fun b o e => hg _ _ (F.keep b o e)
    have hpm := way_ok p (List.mem_of_getElem? hpi)
    have hrm := hok _ (List.mem_of_getElem? hri)
    have N6 : News g (D4 + 1) h5 ((D4, listOf ys.toArray k) :: (D4 + 1 + 1, oc) :: (tl ++ ((T, oT) :: X))) := N5
    clear N5
    refine assignC_TCL rfl rfl ?hx2 ?hc2 ?hb2 F5 N6 hoc (Nat.ne_of_lt (Nat.lt_succ_of_lt (Nat.lt_succ_self _))) (fun p hp => ?hr2) ⟨oT, (N6 (T, oT) (by simp)).1, hTc, mT, hTd⟩ ?hh2
    case hx2 => with_unfolding_all rfl
    case hc2 => with_unfolding_all rfl
    case hb2 => with_unfolding_all rfl
    case hr2 =>
      rcases List.mem_append.mp hp with hp | hp
      · exact fun e => hoff p hp (.tail _ (List.mem_append_left _ (e ▸ .head _)))
      · rcases List.mem_cons.mp hp with rfl | hp
        · intro e
          have e : T = D4 + 1 + 1 := e
          have h1 := (N6 (T, oT) (by simp)).1
          have h2 := (N6 (D4 + 1 + 1, oc) (by simp)).1
          dsimp only at h1 h2
          rw [e, h2] at h1
          cases h1
          rw [hoc] at hTd
          cases hTd
        · have := hX2 p hp
          intro e
          rw [e] at this
          exact absurd (Nat.lt_of_succ_lt (Nat.lt_of_succ_lt this)) (Nat.lt_irrefl _)
    intro h6 tk6 oc1 F7 N7 hoc1
    clear F5 N6
    refine wpAny_tests_nil ?_
    clear F N X' T' KI F1
    dsimp only
    k_steps
    unfold Stop
    refine' ListComp_own (ca := fun n => []) ?hclos3 rfl ?hnames3 ?hca3 ?hca03 ?h3
    case hclos3 => with_unfolding_all rfl
    case hnames3 => decide
    case hca3 => intro n; rfl
    case hca03 => intro n; with_unfolding_all rfl
    k_steps
    unfold Stop
    refine' ListComp_own (ca := fun n => []) ?hclos4 rfl ?hnames4 ?hca4 ?hca04 ?h4
    case hclos4 => with_unfolding_all rfl
    case hnames4 => decide
    case hca4 => intro n; rfl
    case hca04 => intro n; with_unfolding_all rfl
    k_steps
    have hyl := strsAre_len hyS
    refine' iter_list (vs := yvs) rfl ?ht4 (F7.keep _ _ g2) ?hk4
    case' hk4 => intro I3 fp3 wr3 St3 s₃ KI3
    case' hk4 => obtain ⟨hs3, tks3, rfl⟩ := KI3.same
    case' hk4 => refine ⟨I3, fp3, wr3, _, _, St3, _, comp_at KI3 (by rw [sizeLine_eq]; omega) (fun j zs tl => All2 (InLed tl StrsAre) zs ((row.take j).map (goalF p))) .nil ?turn4 ?done4⟩
    case ht4 => intro I v; with_unfolding_all rfl
    case turn4 =>
      rintro D5 C5 g5' wr5 j v tu u5 X5 cs5 zs k5 tl5 h7 tk7 E5 hg5 rfl hj ⟨hv, rfl⟩ hzs hoff5 hX5 hX52 hcs5 _ F8 N8
      obtain rfl := cells_none hcs5
      have hg5 : Ext h6 g5' := hg5
      have r1 := hg5 _ _ (N7 _ (.tail _ (.head _))).1
      have r4 := hg5 _ _ (F7.keep _ _ g4)
      have X5' := Xg.keeps fun b o e => hg5 _ _ (F7.keep b o e)
      have T5' := Tg.keeps fun b o e => hg5 _ _ (F7.keep b o e)
      clear F7 N7 Xg Tg
      obtain ⟨l, tl', rfl, hlj⟩ := strsAre_get hyS hv
      have hl1 := hrm.2 l (List.mem_of_getElem? hlj)
      have hl2 := link_ok2 l hl1
      refine assignC_L rfl ?hx5 F8 N8 ?hh5
      case hx5 => with_unfolding_all rfl
      intro h8 tk8 F9 N9
      clear F8 N8
      refine wpAny_tests_nil ?_
      dsimp only
      k_steps
      unfold Stop
      rename Fr _ _ _ _ => F10
      rename News _ _ _ _ => N10
      have hpl2 := strsAre_len hpS
      refine law_goal (wf_of X5' T5' F10) (F10.keep _ _ r4) hpS (by omega) hl2.1 hl2.2 ?kd ?ku rfl ?_
      case kd => walk_at "D"
      case ku => walk_at "U"
      intro D6 ws6 kn6 h9 tk9 hS9 hE9 hf9 hg9
      have F11 := frExt F10 hE9
      have N11 := newsCons F10 (newsExt N10 hE9) hE9 hf9 hg9
      have N10' : News g5' (D5 + 1) h8 ((D5, listOf zs.toArray k5) :: ([] ++ (tl5 ++ ([] ++ X5)))) := N10
      clear F10
      refine EltEnd.mk [] ((D6, listOf ws6.toArray kn6) :: tl5) F11 N11 (fun p hp => ?_) ⟨rfl, fun _ h => nomatch h⟩ (hoff5.cons (off_new (ca := []) (od := listOf zs.toArray k5) (cs := []) (rest := []) N10' ⟨rfl, fun _ h => nomatch h⟩ hX5 hf9)) ?_
      · simp only [List.mem_cons, List.mem_append, List.cons_append, List.nil_append] at hp ⊢
        rcases hp with h | h | h | h <;> simp [h]
      · rw [List.take_add_one, hlj, List.map_append]
        exact All2.snoc (hzs.mono fun v x hv => hv.more fun p hp => .tail _ hp) (InLed.new hS9)
    case done4 =>
      rintro D5 zs k5 tl5 h7 tk7 hzs hDn5 hk7 hD5 htl5
      have hk7 : Ext h6 h7 := fun b o e => hk7 b o (fun h => nomatch h) e
      have hDn5 : h6.get? D5 = none := hDn5
      have F8 := frExt F7 hk7
      have N8 := newsExt N7 hk7
      have g1' := F8.keep _ _ g1
      have g3' := F8.keep _ _ g3
      have gL' := gL.ext F8.keep
      have Xh := Xg.keeps F8.keep
      have Th := Tg.keeps F8.keep
      clear F7 Xg Tg
      rw [List.take_of_length_le (by omega)] at hzs
      have hzl := hzs.length
      rw [List.length_map] at hzl
      refine' iter_list (vs := zs) rfl ?ht6 hD5 ?hk6
      case' hk6 => intro I3 fp3 wr3 St3 s₃ KI3
      case' hk6 => obtain ⟨hs3, tks3, rfl⟩ := KI3.same
      case' hk6 => refine ⟨I3, fp3, wr3, _, _, St3, _, comp_at KI3 (by rw [sizeLine_eq]; omega) (fun j ws tl => tl = [] ∧ NatsAre ws ((((row.map (goalF p)).take j).filter fun g => wayTexts.any (· == g)).map fun g => wayTexts.idxOf g)) ⟨rfl, .nil⟩ ?turn6 ?done6⟩
      case ht6 => intro I v; with_unfolding_all rfl
      case turn6 =>
        rintro D6 C6 g6' wr6 j v tu u6 X6 cs6 ws k6 tl6 h8 tk8 E6 hg6 rfl hj ⟨hv, rfl⟩ ⟨rfl, hws⟩ _ _ _ hcs6 hwl F9 N9
        obtain rfl := cells_none hcs6
        have hg6 : Ext h7 g6' := hg6
        have r1 := hg6 _ _ g1'
        have r3 := hg6 _ _ g3'
        have rL := gL'.ext hg6
        have X6' := Xh.keeps hg6
        have T6' := Th.keeps hg6
        obtain ⟨x, hxj, hvx⟩ := hzs.get hv
        have hvi : ListIn g6' v x := (hvx.listIn fun p hp => (htl5 p hp).1).ext hg6
        obtain ⟨b, bvs, bn, rfl, hb, hbS⟩ := id hvi
        have htk : ((((row.map (goalF p)).take (j + 1)).filter fun g => wayTexts.any (· == g)).map fun g => wayTexts.idxOf g) = ((((row.map (goalF p)).take j).filter fun g => wayTexts.any (· == g)).map fun g => wayTexts.idxOf g) ++ (if wayTexts.any (· == x) then [wayTexts.idxOf x] else []) := by
          rw [List.take_add_one, hxj, List.filter_append, List.map_append]
          congr 1
          show ([x].filter _).map _ = _
          rw [List.filter_cons]
          split <;> rfl
        clear F8 N8
        refine assignC_L rfl ?hx7 F9 N9 ?hh7
        case hx7 => with_unfolding_all rfl
        intro h9 tk9 F10 N10
        clear F9 N9
        refine wpAny_tests_one ?_
        dsimp only
        k_steps
        unfold Stop
        rename Fr _ _ _ _ => F11
        refine in_lists ⟨_, F11.keep _ _ r3, rfl, _, rfl⟩ (rL.ext F11.keep) (hvi.ext F11.keep) (by walk_at "U") ?_
        k_steps
        · unfold Stop
          rename List.any _ _ = true => hct
          have hct : wayTexts.any (· == x) = true := hct
          have hxm : x ∈ wayTexts := by
            obtain ⟨y, hy, e⟩ := List.any_eq_true.mp hct
            exact eq_of_beq e ▸ hy
          rename Fr _ _ _ _ => F12
          rename News _ _ _ _ => N12
          refine index_lists ⟨_, F12.keep _ _ r3, rfl, _, rfl⟩ (rL.ext F12.keep) (hvi.ext F12.keep) hxm (by walk_at "U") (by omega) ?_
          refine EltEnd.mk [] [] F12 N12 (fun p hp => hp) ⟨rfl, fun _ h => nomatch h⟩ (fun _ h => nomatch h) (And.intro rfl ?_)
          rw [htk, if_pos hct]
          exact ints_snoc hws
        · rename_i hct
          have hct : wayTexts.any (· == x) = false := hct
          rename Fr _ _ _ _ => F12
          rename News _ _ _ _ => N12
          refine EltEnd.mk [] [] F12 N12 (fun p hp => hp) ⟨rfl, fun _ h => nomatch h⟩ (fun _ h => nomatch h) (And.intro rfl ?_)
          rw [htk, if_neg (by rw [hct]; decide), List.append_nil]
          exact hws
      case done6 =>
        rintro D6 ws k6 tl6 h8 tk8 ⟨rfl, hws⟩ hDn6 hk8 hD6 _
        have hk8 : Ext h7 h8 := fun b o e => hk8 b o (fun h => nomatch h) e
        have hDn6 : h7.get? D6 = none := hDn6
        have F9 := frExt F8 hk8
        have N9 := newsCons F8 (newsExt N8 hk8) hk8 hDn6 hD6
        refine EltEnd.mk [(D4 + 1 + 1, oc1)] ((D6, listOf ws.toArray k6) :: tl) F9 N9 (fun p hp => ?_) (cells_is hoc1) (hoff.cons (off_new (od := listOf ys.toArray k) (cs := [(D4 + 1 + 1, oc1)]) (rest := [(T, oT)]) N8 (cells_is hoc1) hX hDn6)) ?_
        · simp only [List.mem_cons, List.mem_append, List.cons_append, List.nil_append] at hp ⊢
          rcases hp with h | h | h | h | h <;> simp [h]
        · rw [zip_take2 edgeRow hpi hri]
          refine All2.snoc (hys.mono fun v x hv => hv.more fun p hp => .tail _ hp) (InLed.new ?_)
          rw [List.take_of_length_le (by rw [List.length_map]; omega)] at hws
          exact hws
end

/-- the walk begins anew -/
theorem anewZ8 {M : Model} {A : Around} {E : Value → Shared → Prop} {Q : Value → Shared → Prop} {s : Shared} {env : Env} (h : ∀ v s', Q v s') : wpAny M A (eval (.Constant (.int 0) 0 ⟨0, 0, 0, 0⟩) env) Q E s := by
  w_top off
  first
    | (walk1; exact h _ _)
    | exact wpAny_Constant_int (h _ _)
theorem LeadsAt.ext {w : World} {g h : Heap} {d : Addr} {G : Str → List Str} {PS : Str → Prop} (H : LeadsAt w g d G PS) (k : Ext g h) : LeadsAt w h d G PS := by
  obtain ⟨kvs, h1, h2⟩ := H
  refine ⟨kvs, h1.at fun o e => k _ _ e, fun p hp => ?_⟩
  obtain ⟨gl, gvs, gn, e1, e2, e3⟩ := h2 p hp
  exact ⟨gl, gvs, gn, e1, k _ _ e2, e3⟩
theorem store_local {M : Model} {A : Around} {E : Value → Shared → Prop} {Q : Unit → Shared → Prop} {s : Shared} {g0 : Heap} {L : Addr} {m : Str → Option Value} {env : Env} {x : Str} {v : Value} (hx : env.kindOf x = some .local) (hp : (env.scope.kind == .class || (env.scope.kind == .module && env.locals != env.globals)) = false) (hL : env.locals = L)
    (F : Fr g0 L s.heap m)
    (h : ∀ h' tk', Fr g0 L h' (fun y => if y = x then some v else m y) → (∀ b ob, b ≠ L → s.heap.get? b = some ob → h'.get? b = some ob) → Q () { s with heap := h', toks := tk' }) : wpAny M A (storeName env x v) Q E s := by
  subst hL
  exact wpAny_storeName_local hx F.ns (fun h' hn hs => h h' _ (F.set hn hs) fun b ob hb e => (hs.2 b hb).trans e) hp
section
variable {w : World} {mean : ExcName → Option Value} {mg mb : Str → Option Value} {E : Value → Shared → Prop} {Q : Flow → Shared → Prop} {s : Shared} {g0 : Heap} {L f : Addr} {cdv : Value} {m : Str → Option Value} {dp un : Nat} {fr : Option (List Env)} {gd : Option (List Code)}
set_option maxHeartbeats 4000000 in
theorem st_kw {st : Stmt} (hst : lawSt w 8 = st) (W : WF w mean mg mb g0) (F : Fr g0 L s.heap m) {o1 o4 o6 o7 : Obj} {v7 : Option Value} {pa da ea : Addr} {pvs evs : List Value} {es : List (List Nat)} {kp ke : Nat} {G : Str → List Str} {PS : Str → Prop} {R : Nat → List Str}
    (N : News g0 L s.heap [(L + 1, o1), (L + 1 + 1 + 1 + 1, o4), (L + 1 + 1 + 1 + 1 + 1 + 1, o6), (L + 1 + 1 + 1 + 1 + 1 + 1 + 1, o7), (pa, listOf pvs.toArray kp), (ea, listOf evs.toArray ke)])
    (d1 : o1.data = .cell (some (.ref pa))) (d4 : o4.data = .cell (some (.ref da))) (d6 : o6.data = .cell (some (.ref ea))) (d7 : o7.data = .cell v7)
    (hp : StrsAre pvs pageTexts) (he : IntLists s.heap evs es) (hes : es.length = 5) (hD : LeadsAt w s.heap da G PS) (V : ∀ (i : Nat) p, pageTexts[i]? = some p → ∃ V : WalkInv G PS p, ∀ k, V.Inv k [] → k = R i)
    (hd : dp + 50 < recursionLimit) (hu : un + 400 < cLine)
    (ret : ∀ D1 vs1 k1 D2 vs2 k2 h' tk' o', Fr g0 L h' (fun y => if y = Str.ofString "walks" then some (.ref D2) else m y) → News g0 L h' [(L + 1 + 1 + 1 + 1 + 1 + 1 + 1, o')] → o'.data = .cell (some (.ref D1)) →
      (∀ b o, b ≠ L → b ≠ L + 1 + 1 + 1 + 1 + 1 + 1 + 1 → s.heap.get? b = some o → h'.get? b = some o) →
      h'.get? D1 = some (listOf vs1.toArray k1) → All2 (IntsIn h') vs1 ((List.range 5).map fun k => keptGo 6 es [] [k]) →
      h'.get? D2 = some (listOf vs2.toArray k2) → g0.get? D2 = none → All2 (ListIn h') vs2 ((List.range 5).map R) → Q .next { s with heap := h', toks := tk' }) :
    wpAny (MD w) (Around.deeper ⟨none, dp, fr, gd, un⟩ (lawEnv w L f cdv)) (exec st (lawEnv w L f cdv)) Q E s := by
  subst hst
  obtain ⟨X', T'⟩ := W
  obtain ⟨S, hS⟩ : ∃ S, lawS w = S := ⟨_, rfl⟩
  unfold lawEnv
  rw [hS]
  conv at hS => lhs; whnf
  subst hS
  conv in (lawSt w 8) => whnf
  obtain ⟨Z, NZ, hZ⟩ := ledger_all F
  have N1 : News g0 L s.heap ((L + 1, o1) :: (pa, listOf pvs.toArray kp) :: Z) := fun p hp => by
    rcases List.mem_cons.mp hp with rfl | hp
    · exact N _ (by simp)
    · rcases List.mem_cons.mp hp with rfl | hp
      · exact N _ (by simp)
      · exact NZ p hp
  have N0 : News g0 L s.heap [(L + 1, o1), (L + 1 + 1 + 1 + 1, o4), (L + 1 + 1 + 1 + 1 + 1 + 1, o6), (L + 1 + 1 + 1 + 1 + 1 + 1 + 1, o7), (pa, listOf pvs.toArray kp), (ea, listOf evs.toArray ke)] ∧ True := ⟨N, trivial⟩
  clear N NZ
  k_steps
  unfold Stop
  refine' ListComp_own (ca := fun n => []) ?hclos rfl ?hnames ?hca ?hca0 ?h
  case hclos => with_unfolding_all rfl
  case hnames => decide
  case hca => intro n; rfl
  case hca0 => intro n; with_unfolding_all rfl
  k_steps
  unfold Stop
  refine' iter_range (n := 5) rfl ?ht (by omega) ?hk
  case' hk => intro I fp wr St s₂ KI
  case' hk => obtain ⟨hs2, tks2, rfl⟩ := KI.same
  case' hk => refine ⟨I, fp, wr, _, _, St, _, comp_at KI (by rw [sizeLine_eq]; omega) (fun i ys tl => All2 (InLed tl NatsAre) ys ((List.range i).map fun k => keptGo 6 es [] [k])) .nil ?turn2 ?done2⟩
  case ht => intro I v; with_unfolding_all rfl
  case turn2 =>
    rintro D4 C g wr i v tu u X cs ys k tl h5 tk5 E' hg rfl hi ⟨⟨tv, rfl⟩, rfl⟩ hys hoff hX hX2 hcs hlen5 F5 N5
    obtain rfl := cells_none hcs
    have hg : Ext s.heap g := hg
    have r6 := hg _ _ (N0.1 (L + 1 + 1 + 1 + 1 + 1 + 1, o6) (by simp)).1
    have r7 := hg _ _ (N0.1 (ea, listOf evs.toArray ke) (by simp)).1
    have hE := he.ext hg
    have Xg := X'.keeps fun b o e => hg _ _ (F.keep b o e)
    have Tg := T'.keeps fun b o e => hg _ _ (F.keep b o e)
    clear F N1 X' T' KI
    have N6 : News g (D4 + 1) h5 ((D4, listOf ys.toArray k) :: (tl ++ X)) := N5
    clear N5
    refine assignC_L rfl ?hx3 F5 N6 ?hh3
    case hx3 => with_unfolding_all rfl
    intro h8 tk8 F9 N9
    clear F5 N6
    refine wpAny_tests_nil ?_
    dsimp only
    k_steps
    unfold Stop
    rename Fr _ _ _ _ => F10
    rename News _ _ _ _ => N10
    refine law_kept (wf_of Xg Tg F10) (F10.keep _ _ r7) (hE.ext F10.keep) hes hi ?kd ?ku rfl ?_
    case kd => walk_at "D"
    case ku => walk_at "U"
    intro D6 ws6 kn6 h9 tk9 hS9 hE9 hf9 hg9
    have F11 := frExt F10 hE9
    have N11 := newsCons F10 (newsExt N10 hE9) hE9 hf9 hg9
    refine EltEnd.mk [] ((D6, listOf ws6.toArray kn6) :: tl) F11 N11 (fun p hp => ?_) ⟨rfl, fun _ h => nomatch h⟩ (hoff.cons (off_new (ca := []) (od := listOf ys.toArray k) (cs := []) (rest := []) N10 ⟨rfl, fun _ h => nomatch h⟩ hX hf9)) ?_
    · simp only [List.mem_cons, List.mem_append, List.cons_append, List.nil_append] at hp ⊢
      rcases hp with h | h | h | h <;> simp [h]
    · rw [range_map_snoc]
      exact All2.snoc (hys.mono fun v x hv => hv.more fun p hp => .tail _ hp) (InLed.new hS9)
  case done2 =>
    rintro D1 vs1 k1 tl1 h1 tk1 hvs1 hDn1 hk1 hD1 htl1
    have hk1 : Ext s.heap h1 := fun b o e => hk1 b o (fun h => nomatch h) e
    have F2 := frExt F hk1
    have N2 := newsCons F (newsExt N1 hk1) hk1 hDn1 hD1
    have N3 : News g0 L h1 tl1 := fun p hp => by
      obtain ⟨q1, q2, q3⟩ := htl1 p hp
      refine ⟨q1, fun e => ?_, ?_⟩
      · obtain ⟨oL, _, _, hL, _⟩ := F.ns
        rw [e] at q2
        exact absurd (q2.symm.trans hL) (by simp)
      · cases q : g0.get? p.1 with
        | none => rfl
        | some o' => exact absurd (q2.symm.trans (F.keep _ _ q)) (by simp)
    have N4 : News g0 L h1 ((D1, listOf vs1.toArray k1) :: (L + 1, o1) :: (pa, listOf pvs.toArray kp) :: (Z ++ tl1)) := fun p hp => by
      simp only [List.mem_cons, List.mem_append] at hp
      rcases hp with h | h | h | h | h
      · exact N2 p (by simp [h])
      · exact N2 p (by simp [h])
      · exact N2 p (by simp [h])
      · exact N2 p (by simp [h])
      · exact N3 p h
    have F0 : Fr g0 L s.heap m ∧ True := ⟨F, trivial⟩
    clear N2 N3 N1 F
    k_steps
    unfold Stop
    refine' ListComp_own (ca := fun n => []) ?hclosb rfl ?hnamesb ?hcab ?hca0b ?hb
    case hclosb => with_unfolding_all rfl
    case hnamesb => decide
    case hcab => intro n; rfl
    case hca0b => intro n; with_unfolding_all rfl
    k_steps
    have hpl := strsAre_len hp
    have hpl5 : pageTexts.length = 5 := rfl
    refine' iter_list (vs := pvs) rfl ?htb (N4 (pa, listOf pvs.toArray kp) (by simp)).1 ?hkb
    case' hkb => intro I2 fp2 wr2 St2 s₃ KI2
    case' hkb => obtain ⟨hs3, tks3, rfl⟩ := KI2.same
    case' hkb => refine ⟨I2, fp2, wr2, _, _, St2, _, comp_at KI2 (by rw [sizeLine_eq]; omega) (fun i ys tl => All2 (InLed tl StrsAre) ys ((List.range i).map R)) .nil ?turn3 ?done3⟩
    case htb => intro I v; with_unfolding_all rfl
    case turn3 =>
      rintro D4 C g wr i v tu u X cs ys k tl h5 tk5 E' hg rfl hi ⟨hv, rfl⟩ hys hoff hX hX2 hcs hlen5 F5 N5
      obtain rfl := cells_none hcs
      have hg : Ext h1 g := hg
      have r4 := hg _ _ (hk1 _ _ (N0.1 (L + 1 + 1 + 1 + 1, o4) (by simp)).1)
      have hE := (hD.ext hk1).ext hg
      have Xg := X'.keeps fun b o e => hg _ _ (F2.keep b o e)
      have Tg := T'.keeps fun b o e => hg _ _ (F2.keep b o e)
      obtain ⟨p, tp, rfl, hpi⟩ := strsAre_get hp hv
      obtain ⟨VI, hVI⟩ := V i p hpi
      clear F2 N4 X' T' KI2
      have N6 : News g (D4 + 1) h5 ((D4, listOf ys.toArray k) :: (tl ++ X)) := N5
      clear N5
      refine assignC_L rfl ?hx3b F5 N6 ?hh3b
      case hx3b => with_unfolding_all rfl
      intro h8 tk8 F9 N9
      clear F5 N6
      refine wpAny_tests_nil ?_
      dsimp only
      k_steps
      unfold Stop
      rename Fr _ _ _ _ => F10
      rename News _ _ _ _ => N10
      refine law_walk VI (wf_of Xg Tg F10) (hE.ext F10.keep) ?kdb ?kub rfl ?_
      case kdb => walk_at "D"
      case kub => walk_at "U"
      intro D6 ws6 kn6 h9 tk9 hE9 hf9 hg9 hS9
      have F11 := frExt F10 hE9
      have N11 := newsCons F10 (newsExt N10 hE9) hE9 hf9 hg9
      refine EltEnd.mk [] ((D6, listOf (strValues ws6).toArray kn6) :: tl) F11 N11 (fun p hp => ?_) ⟨rfl, fun _ h => nomatch h⟩ (hoff.cons (off_new (ca := []) (od := listOf ys.toArray k) (cs := []) (rest := []) N10 ⟨rfl, fun _ h => nomatch h⟩ hX hf9)) ?_
      · simp only [List.mem_cons, List.mem_append, List.cons_append, List.nil_append] at hp ⊢
        rcases hp with h | h | h | h <;> simp [h]
      · rw [range_map_snoc, ← hVI _ hS9]
        exact All2.snoc (hys.mono fun v x hv => hv.more fun p hp => .tail _ hp) (InLed.new (strsAre_of_values ws6))
    case done3 =>
      rintro D2 vs2 k2 tl2 h2 tk2 hvs2 hDn2 hk2 hD2 htl2
      have hk2 : Ext h1 h2 := fun b o e => hk2 b o (fun h => nomatch h) e
      have F3 := frExt F2 hk2
      have N5 := newsCons F2 (newsExt N4 hk2) hk2 hDn2 hD2
      have N6 : News g0 L h2 tl2 := fun p hp => by
        obtain ⟨q1, q2, q3⟩ := htl2 p hp
        refine ⟨q1, fun e => ?_, ?_⟩
        · obtain ⟨oL, _, _, hL, _⟩ := F2.ns
          rw [e] at q2
          exact absurd (q2.symm.trans hL) (by simp)
        · cases q : g0.get? p.1 with
          | none => rfl
          | some o' => exact absurd (q2.symm.trans (F2.keep _ _ q)) (by simp)
      have N7 : News g0 L h2 ((D2, listOf vs2.toArray k2) :: (D1, listOf vs1.toArray k1) :: (Z ++ tl1 ++ tl2)) := fun p hp => by
        simp only [List.mem_cons, List.mem_append] at hp
        rcases hp with h | h | (h | h) | h
        · exact N5 p (by simp [h])
        · exact N5 p (by simp [h])
        · exact N5 p (by simp [h])
        · exact N5 p (by simp [h])
        · exact N6 p h
      clear N5 N6 N4 F2
      k_steps
      unfold Stop
      rename Fr _ _ _ _ => F4
      rename News _ _ _ _ => N8
      have hk := keep_all hZ F4 N8 (fun p hp => by simp [hp])
      have hc := N0.1 (L + 1 + 1 + 1 + 1 + 1 + 1 + 1, o7) (by simp)
      have N9 : News g0 L _ [(L + 1 + 1 + 1 + 1 + 1 + 1 + 1, o7)] := fun p hp => by rw [List.mem_singleton.mp hp]; exact ⟨hk _ _ hc.2.1 hc.1, hc.2⟩
      refine store_cell rfl ?hx ?hcc F4 N9 d7 fun h6 o8 F6 N10 d8 k6 => ?_
      case hx => with_unfolding_all rfl
      case hcc => with_unfolding_all rfl
      have hfr2 := (N8 (D2, listOf vs2.toArray k2) (by simp)).2.2
      have hlist : ∀ b its n, (b, listOf its n) ∈ (D2, listOf vs2.toArray k2) :: (D1, listOf vs1.toArray k1) :: (Z ++ tl1 ++ tl2) → b ≠ L ∧ h6.get? b = some (listOf its n) := fun b its n hb => by
        have h1 := N8 _ (.tail _ hb)
        exact ⟨h1.2.1, k6 _ _ (list_ne_cell h1.1 (N9 _ (.head _)).1 d7) h1.1⟩
      clear N8 F4 N9
      k_steps
      unfold Stop
      refine store_local ?hx2 ?hp2 rfl F6 fun h7 tk7 F7 k7 => ?_
      case hx2 => with_unfolding_all rfl
      case hp2 => with_unfolding_all rfl
      have hl7 : ∀ b its n, (b, listOf its n) ∈ (D2, listOf vs2.toArray k2) :: (D1, listOf vs1.toArray k1) :: (Z ++ tl1 ++ tl2) → h7.get? b = some (listOf its n) := fun b its n hb => k7 _ _ (hlist b its n hb).1 (hlist b its n hb).2
      have hc6 := N10 _ (.head _)
      rw [hpl, hpl5] at hvs2
      k_steps
      refine ret D1 vs1 k1 D2 vs2 k2 h7 _ o8 F7 (fun p hp => by rw [List.mem_singleton.mp hp]; exact ⟨k7 _ _ hc6.2.1 hc6.1, hc6.2⟩) d8 (fun b o hb hb2 e => k7 b o hb (k6 b o hb2 (hk b o hb e))) (hl7 _ _ _ (by simp)) (hvs1.mono fun v x hv => ?_) (hl7 _ _ _ (by simp)) hfr2 (hvs2.mono fun v x hv => ?_)
      · obtain ⟨a, vs, n, rfl, hmem, hvs⟩ := hv
        exact ⟨a, vs, n, rfl, hl7 _ _ _ (by simp [hmem]), hvs⟩
      · obtain ⟨a, vs, n, rfl, hmem, hvs⟩ := hv
        exact ⟨a, vs, n, rfl, hl7 _ _ _ (by simp [hmem]), hvs⟩
end

/-- the walk begins anew -/
theorem anewZ9 {M : Model} {A : Around} {E : Value → Shared → Prop} {Q : Value → Shared → Prop} {s : Shared} {env : Env} (h : ∀ v s', Q v s') : wpAny M A (eval (.Constant (.int 0) 0 ⟨0, 0, 0, 0⟩) env) Q E s := by
  w_top off
  first
    | (walk1; exact h _ _)
    | exact wpAny_Constant_int (h _ _)
def nameF (p : Str) : List Str := (pathNames 5 p []).getD []
theorem names_ok : ∀ p ∈ pageTexts, pathNames 5 p [] = some (nameF p) := by decide +kernel
/-- a value is a list of lists of texts -/
def NamesIn (h : Heap) (v : Value) (x : List (List Str)) : Prop := ∃ a vs n, v = .ref a ∧ h.get? a = some (listOf vs.toArray n) ∧ All2 (ListIn h) vs x
def LedNames (tl : List (Addr × Obj)) (v : Value) (x : List (List Str)) : Prop := ∃ a vs n, v = .ref a ∧ (a, listOf vs.toArray n) ∈ tl ∧ All2 (InLed tl StrsAre) vs x
theorem LedNames.more {tl tl' : List (Addr × Obj)} {v : Value} {x : List (List Str)} (H : LedNames tl v x) (k : ∀ p ∈ tl, p ∈ tl') : LedNames tl' v x := let ⟨a, vs, n, e, hm, hp⟩ := H; ⟨a, vs, n, e, k _ hm, hp.mono fun _ _ q => q.more k⟩
section
variable {w : World} {mean : ExcName → Option Value} {mg mb : Str → Option Value} {E : Value → Shared → Prop} {Q : Flow → Shared → Prop} {s : Shared} {g0 : Heap} {L f : Addr} {cdv : Value} {m : Str → Option Value} {dp un : Nat} {fr : Option (List Env)} {gd : Option (List Code)}
set_option maxHeartbeats 4000000 in
theorem st_names {st : Stmt} (hst : lawSt w 9 = st) (W : WF w mean mg mb g0) (F : Fr g0 L s.heap m) {o8 : Obj} {v8 : Option Value} {ra : Addr} {rvs : List Value} {walks : List (List Str)} {kr : Nat}
    (N : News g0 L s.heap [(L + 1 + 1 + 1 + 1 + 1 + 1 + 1 + 1, o8), (ra, listOf rvs.toArray kr)]) (d8 : o8.data = .cell v8) (hm : m (Str.ofString "walks") = some (.ref ra))
    (hr : All2 (ListIn s.heap) rvs walks) (hlen : walks.length = 5) (hok : ∀ row ∈ walks, row.length ≤ 5 ∧ ∀ l ∈ row, l ∈ pageTexts) (hd : dp + 50 < recursionLimit) (hu : un + 400 < cLine)
    (ret : ∀ D vs k h' tk' o', Fr g0 L h' m → News g0 L h' [(L + 1 + 1 + 1 + 1 + 1 + 1 + 1 + 1, o')] → o'.data = .cell (some (.ref D)) → (∀ b o, b ≠ L + 1 + 1 + 1 + 1 + 1 + 1 + 1 + 1 → s.heap.get? b = some o → h'.get? b = some o) → s.heap.get? D = none →
      h'.get? D = some (listOf vs.toArray k) → All2 (NamesIn h') vs (walks.map fun row => row.map nameF) → Q .next { s with heap := h', toks := tk' }) :
    wpAny (MD w) (Around.deeper ⟨none, dp, fr, gd, un⟩ (lawEnv w L f cdv)) (exec st (lawEnv w L f cdv)) Q E s := by
  subst hst
  obtain ⟨X', T'⟩ := W
  obtain ⟨S, hS⟩ : ∃ S, lawS w = S := ⟨_, rfl⟩
  unfold lawEnv
  rw [hS]
  conv at hS => lhs; whnf
  subst hS
  conv in (lawSt w 9) => whnf
  refine' wpAny_Assign_Name ?hA ?hsw
  case hsw => with_unfolding_all rfl
  refine' ListComp_own (ca := fun n => []) ?hclos rfl ?hnames ?hca ?hca0 ?h
  case hclos => with_unfolding_all rfl
  case hnames => decide
  case hca => intro n; rfl
  case hca0 => intro n; with_unfolding_all rfl
  have F0 : Fr g0 L s.heap m ∧ True := ⟨F, trivial⟩
  have F1 : Fr g0 L s.heap (fun y => if y = Str.ofString "walks" then some (.ref ra) else m y) := frOver (ps := [(Str.ofString "walks", some (.ref ra))]) F ⟨hm, trivial⟩
  clear F
  k_steps
  obtain ⟨F, _⟩ := F0
  have hrl := hr.length
  refine' iter_list (vs := rvs) rfl ?ht (News.get N (.tail _ (.head _))) ?hk
  case' hk => intro I fp wr St s₂ KI
  case' hk => obtain ⟨hs2, tks2, rfl⟩ := KI.same
  case' hk => refine ⟨I, fp, wr, _, _, St, _, comp_at KI (by rw [sizeLine_eq]; omega) (fun i ys tl => All2 (LedNames tl) ys ((walks.take i).map fun row => row.map nameF)) .nil ?turn2 ?done2⟩
  case ht => intro I v; with_unfolding_all rfl
  case done2 =>
    rintro D4 ys k tl h5 tk5 hys hDn hk5 hD4 htl
    have hk5 : Ext s.heap h5 := fun b o e => hk5 b o (fun h => nomatch h) e
    have F5 := frExt F hk5
    have hc := N (L + 1 + 1 + 1 + 1 + 1 + 1 + 1 + 1, o8) (by simp)
    have N5 : News g0 L h5 [(L + 1 + 1 + 1 + 1 + 1 + 1 + 1 + 1, o8)] := fun p hp => by rw [List.mem_singleton.mp hp]; exact ⟨hk5 _ _ hc.1, hc.2⟩
    have hDn : s.heap.get? D4 = none := hDn
    refine store_cell rfl ?hx ?hcc F5 N5 d8 fun h6 o7 F6 N6 d7 k6 => ?_
    case hx => with_unfolding_all rfl
    case hcc => with_unfolding_all rfl
    have hl6 : ∀ b its n, (b, listOf its n) ∈ tl → h6.get? b = some (listOf its n) := fun b its n hb => k6 _ _ (list_ne_cell (htl _ hb).1 (N5 _ (.head _)).1 d8) (htl _ hb).1
    refine ret D4 ys k h6 _ o7 F6 N6 d7 (fun b o hb e => k6 b o hb (hk5 b o e)) hDn (k6 _ _ (list_ne_cell hD4 (N5 _ (.head _)).1 d8) hD4) ?_
    rw [List.take_of_length_le (by omega)] at hys
    refine hys.mono fun v x hv => ?_
    obtain ⟨a, vs, n, rfl, hmem, hvs⟩ := hv
    refine ⟨a, vs, n, rfl, hl6 _ _ _ hmem, hvs.mono fun v x hv => ?_⟩
    obtain ⟨a, vs, n, rfl, hmem, hvs⟩ := hv
    exact ⟨a, vs, n, rfl, hl6 _ _ _ hmem, hvs⟩
  case turn2 =>
    rintro D4 C g wr i v tu u X cs ys k tl h5 tk5 E' hg rfl hi ⟨hy, rfl⟩ hys hoff hX hX2 hcs hlen5 F5 N5
    obtain rfl := cells_none hcs
    obtain ⟨row, hri, ya, yvs, yn, rfl, hya, hyS⟩ := hr.get hy
    have hg : Ext s.heap g := hg
    have g2 := hg _ _ hya
    have Xg := X'.keeps fun b o e => hg _ _ (F.keep b o e)
    have Tg := T'.keeps fun b o e => hg _ _ (F.keep b o e)
    have hrm := hok _ (List.mem_of_getElem? hri)
    have N6 : News g (D4 + 1) h5 ((D4, listOf ys.toArray k) :: (tl ++ X)) := N5
    clear N5
    refine assignC_L rfl ?hx2 F5 N6 ?hh2
    case hx2 => with_unfolding_all rfl
    intro h6 tk6 F7 N7
    clear F5 N6
    refine wpAny_tests_nil ?_
    clear F N X' T' KI F1
    dsimp only
    k_steps
    unfold Stop
    refine' ListComp_own (ca := fun n => []) ?hclos3 rfl ?hnames3 ?hca3 ?hca03 ?h3
    case hclos3 => with_unfolding_all rfl
    case hnames3 => decide
    case hca3 => intro n; rfl
    case hca03 => intro n; with_unfolding_all rfl
    k_steps
    have hyl := strsAre_len hyS
    refine' iter_list (vs := yvs) rfl ?ht3 (F7.keep _ _ g2) ?hk3
    case' hk3 => intro I3 fp3 wr3 St3 s₃ KI3
    case' hk3 => obtain ⟨hs3, tks3, rfl⟩ := KI3.same
    case' hk3 => refine ⟨I3, fp3, wr3, _, _, St3, _, comp_at KI3 (by rw [sizeLine_eq]; omega) (fun j zs tl => All2 (InLed tl StrsAre) zs ((row.take j).map nameF)) .nil ?turn3 ?done3⟩
    case ht3 => intro I v; with_unfolding_all rfl
    case turn3 =>
      rintro D5 C5 g5' wr5 j v tu u5 X5 cs5 zs k5 tl5 h7 tk7 E5 hg5 rfl hj ⟨hv, rfl⟩ hzs hoff5 hX5 hX52 hcs5 _ F8 N8
      obtain rfl := cells_none hcs5
      have hg5 : Ext h6 g5' := hg5
      have X5' := Xg.keeps fun b o e => hg5 _ _ (F7.keep b o e)
      have T5' := Tg.keeps fun b o e => hg5 _ _ (F7.keep b o e)
      clear F7 N7 Xg Tg
      obtain ⟨l, tl', rfl, hlj⟩ := strsAre_get hyS hv
      have hl1 := names_ok l (hrm.2 l (List.mem_of_getElem? hlj))
      have N8' : News g5' (D5 + 1) h7 ((D5, listOf zs.toArray k5) :: (tl5 ++ X5)) := N8
      clear N8
      refine assignC_L rfl ?hx3 F8 N8' ?hh3
      case hx3 => with_unfolding_all rfl
      intro h8 tk8 F9 N9
      clear F8 N8'
      refine wpAny_tests_nil ?_
      dsimp only
      k_steps
      unfold Stop
      rename Fr _ _ _ _ => F10
      rename News _ _ _ _ => N10
      refine law_names (wf_of X5' T5' F10) hl1 ?kd ?ku rfl ?_
      case kd => walk_at "D"
      case ku => walk_at "U"
      intro D6 ws6 kn6 h9 tk9 hS9 hE9 hf9 hg9
      have F11 := frExt F10 hE9
      have N11 := newsCons F10 (newsExt N10 hE9) hE9 hf9 hg9
      refine EltEnd.mk [] ((D6, listOf (strValues ws6).toArray kn6) :: tl5) F11 N11 (fun p hp => ?_) ⟨rfl, fun _ h => nomatch h⟩ (hoff5.cons (off_new (ca := []) (od := listOf zs.toArray k5) (cs := []) (rest := []) N10 ⟨rfl, fun _ h => nomatch h⟩ hX5 hf9)) ?_
      · simp only [List.mem_cons, List.mem_append, List.cons_append, List.nil_append] at hp ⊢
        rcases hp with h | h | h | h <;> simp [h]
      · rw [List.take_add_one, hlj, List.map_append]
        refine All2.snoc (hzs.mono fun v x hv => hv.more fun p hp => .tail _ hp) (InLed.new ?_)
        rw [← hS9]
        exact strsAre_of_values ws6
    case done3 =>
      rintro D5 zs k5 tl5 h7 tk7 hzs hDn5 hk7 hD5 htl5
      have hk7 : Ext h6 h7 := fun b o e => hk7 b o (fun h => nomatch h) e
      have hDn5 : h6.get? D5 = none := hDn5
      have F8 := frExt F7 hk7
      have N8 := newsCons F7 (newsExt N7 hk7) hk7 hDn5 hD5
      rw [List.take_of_length_le (by omega)] at hzs
      have off1 := hoff.cons (off_new (ca := []) (od := listOf ys.toArray k) (cs := []) (rest := []) N7 ⟨rfl, fun _ h => nomatch h⟩ hX hDn5) (o := listOf zs.toArray k5)
      refine EltEnd.mk [] (((D5, listOf zs.toArray k5) :: tl) ++ tl5) F8 (news' := ((D5, listOf zs.toArray k5) :: (D4, listOf ys.toArray k) :: (tl ++ X)) ++ tl5) (fun p hp => ?_) (fun p hp => ?_) ⟨rfl, fun _ h => nomatch h⟩ (fun p hp => ?_) ?_
      · rcases List.mem_append.mp hp with hp | hp
        · exact N8 p hp
        · obtain ⟨q1, q2, q3⟩ := htl5 p hp
          have q2 : h6.get? p.1 = none := q2
          refine ⟨q1, fun e => ?_, ?_⟩
          · obtain ⟨oL, _, _, hL, _⟩ := F7.ns
            rw [e] at q2
            exact absurd (q2.symm.trans hL) (by simp)
          · cases q : g.get? p.1 with
            | none => rfl
            | some o' => exact absurd (q2.symm.trans (F7.keep _ _ q)) (by simp)
      · simp only [List.mem_cons, List.mem_append, List.cons_append, List.nil_append] at hp ⊢
        rcases hp with h | h | (h | h) | h <;> simp [h]
      · rcases List.mem_append.mp hp with hp | hp
        · exact off1 p hp
        · exact off_new (ca := []) (od := listOf ys.toArray k) (cs := []) (rest := []) N7 ⟨rfl, fun _ h => nomatch h⟩ hX (htl5 p hp).2.1
      · rw [List.take_add_one, hri, List.map_append]
        refine All2.snoc (hys.mono fun v x hv => hv.more fun p hp => List.mem_append_left _ (.tail _ hp)) ⟨D5, zs, k5, rfl, .head _, hzs.mono fun v x hv => hv.more fun p hp => List.mem_append_right _ hp⟩
end

/-- the walk begins anew -/
theorem anewZ10 {M : Model} {A : Around} {E : Value → Shared → Prop} {Q : Value → Shared → Prop} {s : Shared} {env : Env} (h : ∀ v s', Q v s') : wpAny M A (eval (.Constant (.int 0) 0 ⟨0, 0, 0, 0⟩) env) Q E s := by
  w_top off
  first
    | (walk1; exact h _ _)
    | exact wpAny_Constant_int (h _ _)
def pageAt (k : Nat) : Str := pageTexts.getD k (Str.ofString "")
def wayAt (k : Nat) : List Str := wayTexts.getD k []
local macro_rules | `(tactic| walk_at "compareOp NotEq ref ref") => `(tactic| refine Stop.out ?_)
local macro_rules | `(tactic| walk_at "subscriptTail Name Name ref int") => `(tactic| (k_here; (with_reducible show wpAny _ _ (subscriptTail _ _ (Value.ref _) (Value.int _ _)) _ _ _); k_dflt (refine' item_at ?o _ ?x ?k ?z ?_; (case o => walk_at "K"); (case k => rfl); (case x => assumption); (case z => omega); k_whole)))
section
variable {w : World} {mean : ExcName → Option Value} {mg mb : Str → Option Value} {E : Value → Shared → Prop} {Q : Flow → Shared → Prop} {s : Shared} {g0 : Heap} {L f : Addr} {cdv : Value} {m : Str → Option Value} {dp un : Nat} {fr : Option (List Env)} {gd : Option (List Code)}
set_option maxHeartbeats 4000000 in
theorem st_check {st : Stmt} (hst : lawSt w 10 = st) (W : WF w mean mg mb g0) (F : Fr g0 L s.heap m) {o1 o5 o7 o8 : Obj} {pa wa ka na ra : Addr} {pvs wvs kvs nvs rvs : List Value} {kept : List (List Nat)} {kp kw kk kn kr : Nat}
    (N : News g0 L s.heap [(L + 1, o1), (L + 1 + 1 + 1 + 1 + 1, o5), (L + 1 + 1 + 1 + 1 + 1 + 1 + 1, o7), (L + 1 + 1 + 1 + 1 + 1 + 1 + 1 + 1, o8)])
    (d1 : o1.data = .cell (some (.ref pa))) (d5 : o5.data = .cell (some (.ref wa))) (d7 : o7.data = .cell (some (.ref ka))) (d8 : o8.data = .cell (some (.ref na))) (hm : m (Str.ofString "walks") = some (.ref ra))
    (hpa : s.heap.get? pa = some (listOf pvs.toArray kp)) (hwa : s.heap.get? wa = some (listOf wvs.toArray kw)) (hka : s.heap.get? ka = some (listOf kvs.toArray kk)) (hna : s.heap.get? na = some (listOf nvs.toArray kn)) (hra : s.heap.get? ra = some (listOf rvs.toArray kr))
    (hp : StrsAre pvs pageTexts) (hw : All2 (ListIn s.heap) wvs wayTexts) (hk : All2 (IntsIn s.heap) kvs kept) (hlen : kept.length = 5) (hok : ∀ one ∈ kept, one.length ≤ 5 ∧ ∀ k ∈ one, k < 5)
    (hr : All2 (ListIn s.heap) rvs (kept.map fun one => one.map pageAt)) (hn : All2 (NamesIn s.heap) nvs (kept.map fun one => one.map wayAt)) (hd : dp + 50 < recursionLimit) (hu : un + 400 < cLine)
    (ret : ∀ h' tk', Fr g0 L h' m → Ext s.heap h' → Q .next { s with heap := h', toks := tk' }) :
    wpAny (MD w) (Around.deeper ⟨none, dp, fr, gd, un⟩ (lawEnv w L f cdv)) (exec st (lawEnv w L f cdv)) Q E s := by
  subst hst
  obtain ⟨X', T'⟩ := W
  obtain ⟨S, hS⟩ : ∃ S, lawS w = S := ⟨_, rfl⟩
  unfold lawEnv
  rw [hS]
  conv at hS => lhs; whnf
  subst hS
  conv in (lawSt w 10) => whnf
  have F0 : Fr g0 L s.heap m ∧ True := ⟨F, trivial⟩
  have F1 : Fr g0 L s.heap (fun y => if y = Str.ofString "walks" then some (.ref ra) else m y) := frOver (ps := [(Str.ofString "walks", some (.ref ra))]) F ⟨hm, trivial⟩
  clear F
  have N0 : News g0 L s.heap [(L + 1, o1), (L + 1 + 1 + 1 + 1 + 1, o5), (L + 1 + 1 + 1 + 1 + 1 + 1 + 1, o7), (L + 1 + 1 + 1 + 1 + 1 + 1 + 1 + 1, o8)] ∧ True := ⟨N, trivial⟩
  have hkl := hk.length
  k_steps
  unfold Stop
  refine' ListComp_own (ca := fun n => []) ?hclos1 rfl ?hnames1 ?hca1 ?hca01 ?h1
  case hclos1 => with_unfolding_all rfl
  case hnames1 => decide
  case hca1 => intro n; rfl
  case hca01 => intro n; with_unfolding_all rfl
  k_steps
  refine' iter_list (vs := kvs) rfl ?ht1 ((fun b o e => e : Ext s.heap s.heap) _ _ hka) ?hk1
  case' hk1 => intro I fp wr St s₂ KI
  case' hk1 => obtain ⟨hs2, tks2, rfl⟩ := KI.same
  case' hk1 => refine ⟨I, fp, wr, _, _, St, _, comp_at KI (by rw [sizeLine_eq]; omega) (fun i ys tl => All2 (InLed tl StrsAre) ys ((kept.take i).map fun one => one.map pageAt)) .nil ?turn1 ?done1⟩
  case ht1 => intro I v; with_unfolding_all rfl
  case turn1 =>
    rintro D4 C g wr i v tu u X cs ys k tl h5 tk5 E' hg rfl hi ⟨hy, rfl⟩ hys hoff hX hX2 hcs hlen5 F5 N5
    obtain rfl := cells_none hcs
    obtain ⟨one, hone, ya, yvs, yn, rfl, hya, hyS⟩ := hk.get hy
    have hg : Ext s.heap g := hg
    have g2 := hg _ _ ((fun b o e => e : Ext s.heap s.heap) _ _ hya)
    have g1 := hg _ _ ((fun b o e => e : Ext s.heap s.heap) _ _ (N0.1 (L + 1, o1) (by simp)).1)
    have g3 := hg _ _ ((fun b o e => e : Ext s.heap s.heap) _ _ hpa)
    have Xg := X'.keeps fun b o e => hg _ _ (F1.keep b o e)
    have Tg := T'.keeps fun b o e => hg _ _ (F1.keep b o e)
    have hrm := hok _ (List.mem_of_getElem? hone)
    have N6 : News g (D4 + 1) h5 ((D4, listOf ys.toArray k) :: (tl ++ X)) := N5
    clear N5
    refine assignC_L rfl ?hx1 F5 N6 ?hh1
    case hx1 => with_unfolding_all rfl
    intro h6 tk6 F7 N7
    clear F5 N6
    refine wpAny_tests_nil ?_
    clear N X' T' KI F1
    dsimp only
    k_steps
    unfold Stop
    refine' ListComp_own (ca := fun n => []) ?hclos1b rfl ?hnames1b ?hca1b ?hca01b ?h1b
    case hclos1b => with_unfolding_all rfl
    case hnames1b => decide
    case hca1b => intro n; rfl
    case hca01b => intro n; with_unfolding_all rfl
    k_steps
    have hyl := hyS.length
    rw [List.length_map] at hyl
    refine' iter_list (vs := yvs) rfl ?ht1b (F7.keep _ _ g2) ?hk1b
    case' hk1b => intro I3 fp3 wr3 St3 s₃ KI3
    case' hk1b => obtain ⟨hs3, tks3, rfl⟩ := KI3.same
    case' hk1b => refine ⟨I3, fp3, wr3, _, _, St3, _, comp_at KI3 (by rw [sizeLine_eq]; omega) (fun j zs tl => tl = [] ∧ StrsAre zs ((one.take j).map pageAt)) ⟨rfl, .nil⟩ ?turn1b ?done1b⟩
    case ht1b => intro I v; with_unfolding_all rfl
    case turn1b =>
      rintro D5 C5 g5' wr5 j v tu u5 X5 cs5 zs k5 tl5 h7 tk7 E5 hg5 rfl hj ⟨hv, rfl⟩ ⟨rfl, hzs⟩ _ _ _ hcs5 _ F8 N8
      obtain rfl := cells_none hcs5
      have hg5 : Ext h6 g5' := hg5
      have r1 := hg5 _ _ (F7.keep _ _ g1)
      have r3 := hg5 _ _ (F7.keep _ _ g3)
      have X5' := Xg.keeps fun b o e => hg5 _ _ (F7.keep b o e)
      have T5' := Tg.keeps fun b o e => hg5 _ _ (F7.keep b o e)
      clear F7 N7 Xg Tg
      obtain ⟨q, tq, rfl, hqj⟩ := ints_get hyS hv
      have hq5 := hrm.2 q (List.mem_of_getElem? hqj)
      obtain ⟨tx, htx⟩ := strs_get' hp (List.getElem?_eq_getElem (show q < pageTexts.length from hq5))
      have e : pageTexts[q]'(show q < pageTexts.length from hq5) = pageAt q := by rw [pageAt, List.getD_eq_getElem?_getD, List.getElem?_eq_getElem (show q < pageTexts.length from hq5)]; rfl
      rw [e] at htx
      refine assignC_L rfl ?hx1b F8 N8 ?hh1b
      case hx1b => with_unfolding_all rfl
      intro h8 tk8 F9 N9
      clear F8 N8
      refine wpAny_tests_nil ?_
      dsimp only
      k_steps
      rename Fr _ _ _ _ => F11
      rename News _ _ _ _ => N11
      refine EltEnd.mk [] [] F11 N11 (fun p hp => hp) ⟨rfl, fun _ h => nomatch h⟩ (fun _ h => nomatch h) (And.intro rfl ?_)
      rw [List.take_add_one, hqj, List.map_append]
      exact strs_snoc hzs
    case done1b =>
      rintro D5 zs k5 tl5 h7 tk7 ⟨rfl, hzs⟩ hDn5 hk7 hD5 _
      have hk7 : Ext h6 h7 := fun b o e => hk7 b o (fun h => nomatch h) e
      have hDn5 : h6.get? D5 = none := hDn5
      have F8 := frExt F7 hk7
      have N8 := newsCons F7 (newsExt N7 hk7) hk7 hDn5 hD5
      rw [List.take_of_length_le (by omega)] at hzs
      refine EltEnd.mk [] ((D5, listOf zs.toArray k5) :: tl) F8 N8 (fun p hp => ?_) ⟨rfl, fun _ h => nomatch h⟩ (hoff.cons (off_new (ca := []) (od := listOf ys.toArray k) (cs := []) (rest := []) N7 ⟨rfl, fun _ h => nomatch h⟩ hX hDn5)) ?_
      · simp only [List.mem_cons, List.mem_append, List.cons_append, List.nil_append] at hp ⊢
        rcases hp with h | h | h | h <;> simp [h]
      · rw [List.take_add_one, hone, List.map_append]
        refine All2.snoc (hys.mono fun v x hv => hv.more fun p hp => .tail _ hp) (InLed.new hzs)
  case done1 =>
    rintro D1 ys k tl h1 tk1 hys hDn hk1 hD1 htl
    have hk1 : Ext s.heap h1 := fun b o e => hk1 b o (fun h => nomatch h) e
    have F2 := frExt F1 hk1
    have N2 := newsExt N hk1
    rw [List.take_of_length_le (by omega)] at hys
    clear F1 N
    k_steps
    unfold Stop
    refine ne_same ⟨_, hk1 _ _ hra, rfl, kr, rfl⟩ ⟨_, hD1, rfl, k, rfl⟩ (by walk_at "U") (Same.lists (hr.mono fun v x hv => hv.ext hk1) (hys.mono fun v x hv => hv.listIn fun p hp => (htl p hp).1) (by walk_at "U")) ?_
    have F1 := F2
    clear F2
    k_steps
    unfold Stop
    refine' ListComp_own (ca := fun n => []) ?hclos2 rfl ?hnames2 ?hca2 ?hca02 ?h2
    case hclos2 => with_unfolding_all rfl
    case hnames2 => decide
    case hca2 => intro n; rfl
    case hca02 => intro n; with_unfolding_all rfl
    k_steps
    refine' iter_list (vs := kvs) rfl ?ht2 (hk1 _ _ hka) ?hk2
    case' hk2 => intro I fp wr St s₂ KI
    case' hk2 => obtain ⟨hs2, tks2, rfl⟩ := KI.same
    case' hk2 => refine ⟨I, fp, wr, _, _, St, _, comp_at KI (by rw [sizeLine_eq]; omega) (fun i ys tl => All2 (InLed tl fun vs x => All2 (ListIn s.heap) vs x) ys ((kept.take i).map fun one => one.map wayAt)) .nil ?turn2 ?done2⟩
    case ht2 => intro I v; with_unfolding_all rfl
    case turn2 =>
      rintro D4 C g wr i v tu u X cs ys k tl h5 tk5 E' hg rfl hi ⟨hy, rfl⟩ hys hoff hX hX2 hcs hlen5 F5 N5
      obtain rfl := cells_none hcs
      obtain ⟨one, hone, ya, yvs, yn, rfl, hya, hyS⟩ := hk.get hy
      have hg : Ext h1 g := hg
      have g2 := hg _ _ (hk1 _ _ hya)
      have g1 := hg _ _ (hk1 _ _ (N0.1 (L + 1 + 1 + 1 + 1 + 1, o5) (by simp)).1)
      have g3 := hg _ _ (hk1 _ _ hwa)
      have Xg := X'.keeps fun b o e => hg _ _ (F1.keep b o e)
      have Tg := T'.keeps fun b o e => hg _ _ (F1.keep b o e)
      have hrm := hok _ (List.mem_of_getElem? hone)
      have N6 : News g (D4 + 1) h5 ((D4, listOf ys.toArray k) :: (tl ++ X)) := N5
      clear N5
      refine assignC_L rfl ?hx2 F5 N6 ?hh2
      case hx2 => with_unfolding_all rfl
      intro h6 tk6 F7 N7
      clear F5 N6
      refine wpAny_tests_nil ?_
      clear N2 X' T' KI F1
      dsimp only
      k_steps
      unfold Stop
      refine' ListComp_own (ca := fun n => []) ?hclos2b rfl ?hnames2b ?hca2b ?hca02b ?h2b
      case hclos2b => with_unfolding_all rfl
      case hnames2b => decide
      case hca2b => intro n; rfl
      case hca02b => intro n; with_unfolding_all rfl
      k_steps
      have hyl := hyS.length
      rw [List.length_map] at hyl
      refine' iter_list (vs := yvs) rfl ?ht2b (F7.keep _ _ g2) ?hk2b
      case' hk2b => intro I3 fp3 wr3 St3 s₃ KI3
      case' hk2b => obtain ⟨hs3, tks3, rfl⟩ := KI3.same
      case' hk2b => refine ⟨I3, fp3, wr3, _, _, St3, _, comp_at KI3 (by rw [sizeLine_eq]; omega) (fun j zs tl => tl = [] ∧ All2 (ListIn s.heap) zs ((one.take j).map wayAt)) ⟨rfl, .nil⟩ ?turn2b ?done2b⟩
      case ht2b => intro I v; with_unfolding_all rfl
      case turn2b =>
        rintro D5 C5 g5' wr5 j v tu u5 X5 cs5 zs k5 tl5 h7 tk7 E5 hg5 rfl hj ⟨hv, rfl⟩ ⟨rfl, hzs⟩ _ _ _ hcs5 _ F8 N8
        obtain rfl := cells_none hcs5
        have hg5 : Ext h6 g5' := hg5
        have r1 := hg5 _ _ (F7.keep _ _ g1)
        have r3 := hg5 _ _ (F7.keep _ _ g3)
        have X5' := Xg.keeps fun b o e => hg5 _ _ (F7.keep b o e)
        have T5' := Tg.keeps fun b o e => hg5 _ _ (F7.keep b o e)
        clear F7 N7 Xg Tg
        obtain ⟨q, tq, rfl, hqj⟩ := ints_get hyS hv
        have hq5 := hrm.2 q (List.mem_of_getElem? hqj)
        obtain ⟨vx, htx, hvx⟩ := hw.get' (List.getElem?_eq_getElem (show q < wayTexts.length from hq5))
        have e : wayTexts[q]'(show q < wayTexts.length from hq5) = wayAt q := by rw [wayAt, List.getD_eq_getElem?_getD, List.getElem?_eq_getElem (show q < wayTexts.length from hq5)]; rfl
        rw [e] at hvx
        refine assignC_L rfl ?hx2b F8 N8 ?hh2b
        case hx2b => with_unfolding_all rfl
        intro h8 tk8 F9 N9
        clear F8 N8
        refine wpAny_tests_nil ?_
        dsimp only
        k_steps
        rename Fr _ _ _ _ => F11
        rename News _ _ _ _ => N11
        refine EltEnd.mk [] [] F11 N11 (fun p hp => hp) ⟨rfl, fun _ h => nomatch h⟩ (fun _ h => nomatch h) (And.intro rfl ?_)
        rw [List.take_add_one, hqj, List.map_append]
        exact All2.snoc hzs hvx
      case done2b =>
        rintro D5 zs k5 tl5 h7 tk7 ⟨rfl, hzs⟩ hDn5 hk7 hD5 _
        have hk7 : Ext h6 h7 := fun b o e => hk7 b o (fun h => nomatch h) e
        have hDn5 : h6.get? D5 = none := hDn5
        have F8 := frExt F7 hk7
        have N8 := newsCons F7 (newsExt N7 hk7) hk7 hDn5 hD5
        rw [List.take_of_length_le (by omega)] at hzs
        refine EltEnd.mk [] ((D5, listOf zs.toArray k5) :: tl) F8 N8 (fun p hp => ?_) ⟨rfl, fun _ h => nomatch h⟩ (hoff.cons (off_new (ca := []) (od := listOf ys.toArray k) (cs := []) (rest := []) N7 ⟨rfl, fun _ h => nomatch h⟩ hX hDn5)) ?_
        · simp only [List.mem_cons, List.mem_append, List.cons_append, List.nil_append] at hp ⊢
          rcases hp with h | h | h | h <;> simp [h]
        · rw [List.take_add_one, hone, List.map_append]
          refine All2.snoc (hys.mono fun v x hv => hv.more fun p hp => .tail _ hp) (InLed.new hzs)
    case done2 =>
      rintro D2 zs2 k2 tl2 h2 tk2 hys2 hDn2 hk2 hD2 htl2
      have hk2 : Ext h1 h2 := fun b o e => hk2 b o (fun h => nomatch h) e
      have F3 := frExt F1 hk2
      have N3 := newsExt N2 hk2
      have k02 : Ext s.heap h2 := fun b o e => hk2 _ _ (hk1 _ _ e)
      rw [List.take_of_length_le (by omega)] at hys2
      clear F1 N2
      k_steps
      unfold Stop
      have u1 : un + 10 < cLine := by omega
      refine ne_same ⟨_, k02 _ _ hna, rfl, kn, rfl⟩ ⟨_, hD2, rfl, k2, rfl⟩ (by walk_at "U") (Same.of hn hys2 fun v w x h3 h4 => ?_) ?_
      · obtain ⟨a, avs, an, rfl, ha, hA⟩ := h3
        obtain ⟨b, bvs, bn, rfl, hb, hB⟩ := h4
        exact eqAt_same ⟨_, k02 _ _ ha, rfl, an, rfl⟩ ⟨_, (htl2 _ hb).1, rfl, bn, rfl⟩ (by walk_at "U") (Same.lists (hA.mono fun v x hv => hv.ext k02) (hB.mono fun v x hv => hv.ext k02) (by walk_at "U"))
      k_steps
      exact ret _ _ (frExt F0.1 k02) k02
end

/-- the walk begins anew -/
theorem anewZ11 {M : Model} {A : Around} {E : Value → Shared → Prop} {Q : Value → Shared → Prop} {s : Shared} {env : Env} (h : ∀ v s', Q v s') : wpAny M A (eval (.Constant (.int 0) 0 ⟨0, 0, 0, 0⟩) env) Q E s := by
  w_top off
  first
    | (walk1; exact h _ _)
    | exact wpAny_Constant_int (h _ _)
def rowTo (i j : Nat) : List (List Nat) := ((List.range j).filter fun b => i != b).map fun b => [i, b]
def pairsTo (i : Nat) : List (List Nat) := (List.range i).flatMap fun a => rowTo a 5
theorem pairs_len : ∀ i, i < 5 → ∀ j, j < 5 → (pairsTo i ++ rowTo i j).length ≤ 100 := by decide
theorem rowTo_succ (i j : Nat) : rowTo i (j + 1) = rowTo i j ++ (if i != j then [[i, j]] else []) := by
  unfold rowTo
  rw [List.range_succ, List.filter_append, List.map_append]
  congr 1
  rw [List.filter_cons]
  split <;> rfl
theorem pairsTo_succ (i : Nat) : pairsTo (i + 1) = pairsTo i ++ rowTo i 5 := by
  unfold pairsTo
  rw [List.range_succ, List.flatMap_append]
  simp
local macro_rules | `(tactic| walk_at "call builtin:list.append") => `(tactic| refine Stop.out ?_)
section
variable {w : World} {mean : ExcName → Option Value} {mg mb : Str → Option Value} {E : Value → Shared → Prop} {Q : Flow → Shared → Prop} {s : Shared} {g0 : Heap} {L f : Addr} {cdv : Value} {m : Str → Option Value} {dp un : Nat} {fr : Option (List Env)} {gd : Option (List Code)}
set_option maxHeartbeats 4000000 in
theorem st_pairs {st : Stmt} (hst : lawSt w 11 = st) (W : WF w mean mg mb g0) (F : Fr g0 L s.heap m) (hd : dp + 50 < recursionLimit) (hu : un + 400 < cLine)
    (ret : ∀ D vs k h' tk', Fr g0 L h' (fun y => if y = Str.ofString "pairs" then some (.ref D) else m y) → (∀ b o, b ≠ L → s.heap.get? b = some o → h'.get? b = some o) → h'.get? D = some (listOf vs.toArray k) → All2 (IntsIn h') vs (pairsTo 5) → Q .next { s with heap := h', toks := tk' }) :
    wpAny (MD w) (Around.deeper ⟨none, dp, fr, gd, un⟩ (lawEnv w L f cdv)) (exec st (lawEnv w L f cdv)) Q E s := by
  subst hst
  obtain ⟨X', T'⟩ := W
  obtain ⟨S, hS⟩ : ∃ S, lawS w = S := ⟨_, rfl⟩
  unfold lawEnv
  rw [hS]
  conv at hS => lhs; whnf
  subst hS
  conv in (lawSt w 11) => whnf
  have N0 : News g0 L s.heap [] := fun _ h => nomatch h
  refine' Assign_gen_own ?hsw ?hclos rfl ?hnames ?hca ?hca0 ?hy ?hp ?h
  case hsw => with_unfolding_all rfl
  case hclos => with_unfolding_all rfl
  case hnames => decide
  case hca => intro n; rfl
  case hca0 => intro n; with_unfolding_all rfl
  case hy => with_unfolding_all rfl
  case hp => with_unfolding_all rfl
  k_steps
  unfold Stop
  refine' iter_range (n := 5) rfl ?ht (by omega) ?hk
  case' hk => intro I fp wr St s₂ KI
  case' hk => have hNs := ns_at KI (m := m) (L := L) (g := g0) F
  case' hk => obtain ⟨hs2, tks2, rfl⟩ := KI.same
  case' hk => refine ⟨I, fp, wr, _, _, St, m, rfl, KI.T, KI.st, hNs.1, ?_⟩
  case ht => intro I v; with_unfolding_all rfl
  intro D C h₁ R hD hC hns hk hDl st hR
  have hLw := hNs.2
  have hwl : ∀ b ∈ wr, @LT.lt Nat _ b D := fun b hb => by
    obtain ⟨o, ho⟩ := KI.live b (KI.sub b hb)
    rw [hD]
    exact Heap.lt_size ho
  have hwn : ∀ b o, s.heap.get? b = some o → b ∉ wr := fun b o e hb => by
    have := KI.fresh b hb
    rw [e] at this; cases this
  have hg0 : Ext s.heap (hideAll hs2 wr) := fun b o e => hide_get (hwn b o e) (KI.ext b o e)
  have Xg := X'.keeps fun b o e => hg0 _ _ (F.keep b o e)
  have Tg := T'.keeps fun b o e => hg0 _ _ (F.keep b o e)
  have F1 : Fr (hideAll hs2 wr) C h₁ (fun _ => none) := ⟨hns, fun b o e => hk b o (of_hideAll _ e), by rw [hideAll_size, hC, hD]; exact Nat.le_succ _⟩
  have hDn : (hideAll hs2 wr).get? D = none := by
    cases e : (hideAll hs2 wr).get? D with
    | none => rfl
    | some o => rw [hD] at e; exact absurd (Heap.lt_size (of_hideAll _ e)) (Nat.lt_irrefl _)
  have N1 : News (hideAll hs2 wr) C h₁ [(D, listOf #[] 0)] := fun p hp => by
    rw [List.mem_singleton.mp hp]
    exact ⟨hDl, by rw [hC]; exact Nat.ne_of_lt (Nat.lt_succ_self _), hDn⟩
  have hCn : s.heap.get? C = none := by
    cases e : s.heap.get? C with
    | none => rfl
    | some o =>
      have h1 := Heap.lt_size (KI.ext _ _ e)
      have h2 : hs2.objs.size = D := hD.symm
      have h3 : @LT.lt Nat _ C hs2.objs.size := h1
      rw [h2, hC] at h3
      exact absurd (Nat.lt_of_succ_lt h3) (Nat.lt_irrefl _)
  refine comp_coreE (fun _ => True) (g := hideAll hs2 wr) (ys₀ := []) (turn_0 _ _ _ _ _ _ _ _ _ _ _ _) rfl rfl KI.T ?hfp ?hwr ?hDC st F1 N1 (fun _ h => nomatch h) trivial (fun i ys tl => All2 (InLed tl NatsAre) ys (pairsTo i)) .nil ?turn ?done
  case hfp =>
    intro b hb hbw
    obtain ⟨o, ho⟩ := KI.live b hb
    exact ⟨o, hide_get hbw ho⟩
  case hwr =>
    intro b hb
    have := hwl b hb
    exact ⟨hideAll_none _ hb, by rw [hC]; exact Nat.ne_of_lt (Nat.lt_succ_of_lt this), Nat.ne_of_lt this⟩
  case hDC => rw [hC]; exact Nat.ne_of_lt (Nat.lt_succ_self _)
  case done =>
    intro ys k tl h tk u hys hoff _ Fh Nh hkp
    have hLk : ∀ o, hs2.get? L = some o → h.get? L = some o := fun o e => Fh.keep _ _ (hide_get hLw e)
    refine hR h tk u Fh.ns (hNs.1.at' fun o e => hLk o e) fun h' tk' hk' hn' => ?_
    have hCL : ∀ b o, s.heap.get? b = some o → b ≠ C := fun b o e q => by rw [q, hCn] at e; cases e
    have hDL : D ≠ L := fun q => by
      obtain ⟨oL, _, _, hL, _⟩ := F.ns
      have := hg0 _ _ hL
      rw [← q, hDn] at this; cases this
    have htL : ∀ p ∈ tl, p.1 ≠ L := fun p hp q => by
      obtain ⟨oL, _, _, hL, _⟩ := F.ns
      have := hg0 _ _ hL
      have h2 := (Nh p (.tail _ hp)).2.2
      rw [q] at h2
      rw [h2] at this; cases this
    refine ret D ys k h' tk' ⟨hn', fun b o e => hk' b o (hCL _ _ (F.keep _ _ e)) (Nat.ne_of_lt (Nat.lt_of_lt_of_le (Heap.lt_size e) F.above)) (Fh.keep _ _ (hg0 _ _ (F.keep _ _ e))), F.above⟩ (fun b o hb e => hk' b o (hCL _ _ e) hb (Fh.keep _ _ (hg0 _ _ e))) (hk' _ _ (Nh _ (.head _)).2.1 hDL (Nh _ (.head _)).1) (hys.mono fun v x hv => ?_)
    obtain ⟨a, vs, n, rfl, hmem, hvs⟩ := hv
    have h3 := Nh _ (.tail _ hmem)
    exact ⟨a, vs, n, rfl, hk' _ _ h3.2.1 (htL _ hmem) h3.1, hvs⟩
  case turn =>
    rintro i v tu u X ys k tl h tk E' hi ⟨⟨tv, rfl⟩, rfl⟩ hys hoff hX hX2 _ F2 N2
    have N3 : News (hideAll hs2 wr) C h ((D, listOf ys.toArray k) :: (tl ++ X)) := N2
    clear N2 F1 N1
    refine assignC_L rfl ?hx F2 N3 ?hh
    case hx => with_unfolding_all rfl
    intro h6 tk6 F6 N6
    clear F2 N3
    refine wpAny_tests_nil ?_
    rw [if_pos rfl]
    refine emit0_rule (by intro x; with_unfolding_all rfl) ?_
    have FF : Fr g0 L s.heap m ∧ True := ⟨F, trivial⟩
    clear F N0 X' T'
    k_steps
    unfold Stop
    refine' iter_rangeF (n := 5) rfl ?htb (by omega) ?hkb
    case' hkb => intro I2 fp2 wr2 St2 s₃ KI2 hfw
    case' hkb => obtain ⟨hs3, tks3, rfl⟩ := KI2.same
    case' hkb => refine compStart_1' KI2.T KI2.st ?loop
    case htb => intro I v; with_unfolding_all rfl
    have hw2 : ∀ b o, h6.get? b = some o → b ∉ wr2 := fun b o e hb => by
      have := KI2.fresh b hb
      rw [e] at this; cases this
    have F7 := frExt F6 KI2.ext
    have N7 := newsExt N6 KI2.ext
    have hDw : D ∉ wr := fun hm => Nat.lt_irrefl _ (hwl D hm)
    have hX6 : ∀ p ∈ (D, listOf ys.toArray k) :: (tl ++ X), p.1 ∉ wr2 := fun p hp => hw2 _ _ (N6 p hp).1
    have hoX : Off (D :: wr2) (tl ++ X) := fun p hp hm => by
      rcases List.mem_cons.mp hm with e | hm
      · rcases List.mem_append.mp hp with hp | hp
        · exact hoff p hp (e ▸ .head _)
        · exact hDw (e ▸ hX2 p hp)
      · exact hX6 p (.tail _ hp) hm
    refine comp_coreE (fun u => u (Str.ofString "one") = some (.int (i : Int) tv)) (g := hideAll hs2 wr) (ys₀ := ys) (k₀ := k) (turn_1 _ _ _ _ _ _ _ _ _ _ _ _) rfl rfl KI2.T ?hfp2 ?hwr2 ?hDC2 KI2.st F7 N7 hoX ?hU2
      (fun j ys' tl' => ∃ t, tl' = t ++ X ∧ Off (D :: wr) t ∧ All2 (InLed t NatsAre) ys' (pairsTo i ++ rowTo i j)) ⟨tl, rfl, hoff, by rw [show rowTo i 0 = [] from rfl, List.append_nil]; exact hys⟩ ?turn2 ?done2
    case hfp2 => exact fun b hb hn => absurd (hfw b hb) hn
    case hwr2 =>
      intro b hb
      refine ⟨?_, fun e => ?_, fun e => ?_⟩
      · cases e : (hideAll hs2 wr).get? b with
        | none => rfl
        | some o => exact absurd hb (hw2 _ _ (F6.keep _ _ e))
      · obtain ⟨oC, _, _, hoC, _⟩ := F6.ns
        exact hw2 _ _ hoC (e ▸ hb)
      · exact hw2 _ _ (N6 _ (.head _)).1 (e ▸ hb)
    case hDC2 => rw [hC]; exact Nat.ne_of_lt (Nat.lt_succ_self _)
    case hU2 => exact if_pos rfl
    case done2 =>
      rintro ys2 k2 tl2 h7 tk7 u2 ⟨t, rfl, hofft, hys2⟩ _ _ F8 N8 _
      refine ⟨trivial, h7, tk7, u2, ys2, k2, t, _, rfl, F8, N8, fun p hp => hp, trivial, hofft, ?_⟩
      rw [pairsTo_succ]
      exact hys2
    case turn2 =>
      rintro j v tu u2 X2 ys2 k2 tl2 h7 tk7 E7 hj ⟨⟨tj, rfl⟩, rfl⟩ ⟨t, rfl, hofft, hys2⟩ hoff2 hX2' hX22 hU2 F8 N8
      have N9 : News (hideAll hs2 wr) C h7 ((D, listOf ys2.toArray k2) :: (t ++ X ++ X2)) := N8
      have F9 : Fr (hideAll hs2 wr) C h7 (fun y => if y = Str.ofString "one" then some (.int (i : Int) tv) else u2 y) := frOver (ps := [(Str.ofString "one", some (.int (i : Int) tv))]) F8 ⟨hU2, trivial⟩
      clear F8 N8 F7 N7 F6 N6 KI KI2
      refine assignC_L rfl ?hx2 F9 N9 ?hh2
      case hx2 => with_unfolding_all rfl
      intro h8 tk8 F10 N10
      clear F9 N9
      refine wpAny_tests_one ?_
      dsimp only
      k_steps
      · rename_i hij
        have hij : (i : Int) ≠ (j : Int) := hij
        have hb : (i != j) = true := by simpa using fun e => hij (by rw [e])
        have hlen := pairs_len i hi j hj
        rw [← hys2.length] at hlen
        refine emit1_rule ?_
        k_steps
        unfold Stop
        rename Fr _ _ _ _ => F12
        rename News _ _ _ _ => N12
        rename_i T hT l1
        have hTlt := lt_of_all l1.2
        have hD2 : D ∉ wr2 := hX6 (D, _) (.head _)
        have hne : ∀ p ∈ (T, listOf #[Value.int (i : Int) tv, Value.int (j : Int) tj] 0) :: (t ++ X ++ X2), p.1 ≠ D := fun p hp e => by
          rcases List.mem_cons.mp hp with rfl | hp
          · exact Nat.ne_of_gt l1.1 e
          · rcases List.mem_append.mp hp with hp | hp
            · rcases List.mem_append.mp hp with hp | hp
              · exact hofft p hp (e ▸ .head _)
              · exact hDw (e ▸ hX2 p hp)
            · exact hD2 (e ▸ hX22 p hp)
        have hTn : ∀ p ∈ (D, listOf ys2.toArray k2) :: (t ++ X ++ X2), p.1 ≠ T := fun p hp => by
          rcases List.mem_cons.mp hp with rfl | hp
          · exact Nat.ne_of_lt l1.1
          · exact Nat.ne_of_lt (hTlt p hp)
        have hTw : T ∉ D :: wr := fun hm => by
          rcases List.mem_cons.mp hm with e | hm
          · exact Nat.ne_of_gt l1.1 e
          · obtain ⟨o, ho⟩ := hX T hm
            exact hTn (T, o) (by simp [ho]) rfl
        have hTw2 : T ∉ D :: wr2 := fun hm => by
          rcases List.mem_cons.mp hm with e | hm
          · exact Nat.ne_of_gt l1.1 e
          · obtain ⟨o, ho⟩ := hX2' T hm
            exact hTn (T, o) (by simp [ho]) rfl
        refine wpAny_list_append_plain (items := ys2.toArray) ⟨k2, (N12 _ (.tail _ (.head _))).1⟩ (fun h₄ hl₄ hs₄ => ?_) (by rw [List.size_toArray, sizeLine_eq]; omega)
        obtain ⟨k', hl₄⟩ := hl₄
        have up : ∀ b o, b ≠ D → hT.get? b = some o → h₄.get? b = some o := fun b o hb e => hs₄.extBut b o hb e
        have hCD : C ≠ D := by rw [hC]; exact Nat.ne_of_gt (Nat.lt_succ_self _)
        have F13 := (⟨F12.ns.at' fun o e => up _ o hCD e, fun b o e => up b o (fun hb => by rw [hb, hDn] at e; cases e) (F12.keep b o e), F12.above⟩ : Fr (hideAll hs2 wr) C h₄ _)
        have N13 : News (hideAll hs2 wr) C h₄ ((D, listOf (ys2 ++ [Value.ref T]).toArray k') :: (T, listOf #[Value.int (i : Int) tv, Value.int (j : Int) tj] 0) :: (t ++ X ++ X2)) := fun p hp => by
          rcases List.mem_cons.mp hp with rfl | hp
          · exact ⟨by rw [hl₄]; simp, (N12 _ (.tail _ (.head _))).2⟩
          · have h1 : p ∈ (T, listOf #[Value.int (i : Int) tv, Value.int (j : Int) tj] 0) :: (D, listOf ys2.toArray k2) :: (t ++ X ++ X2) := by
              rcases List.mem_cons.mp hp with rfl | hp
              · exact .head _
              · exact .tail _ (.tail _ hp)
            exact ⟨up _ _ (hne p hp) (N12 p h1).1, (N12 p h1).2⟩
        refine ⟨trivial, h₄, _, _, ys2 ++ [Value.ref T], k', ((T, listOf #[Value.int (i : Int) tv, Value.int (j : Int) tj] 0) :: t) ++ X, _, rfl, F13, N13, fun p hp => hp, ?_, hoff2.cons hTw2, (T, listOf #[Value.int (i : Int) tv, Value.int (j : Int) tj] 0) :: t, rfl, hofft.cons hTw, ?_⟩
        · show (if Str.ofString "one" = Str.ofString "other" then _ else if Str.ofString "one" = Str.ofString "one" then _ else _) = _
          rw [if_neg (by decide), if_pos rfl]
        · rw [rowTo_succ, hb, if_pos rfl, ← List.append_assoc]
          exact All2.snoc (hys2.mono fun v x hv => hv.more fun p hp => .tail _ hp) (InLed.new (vs := [.int (i : Int) tv, .int (j : Int) tj]) (.cons _ _ (.cons _ _ .nil)))
      · rename_i hij
        have hij : (i : Int) = (j : Int) := hij
        have hb : (i != j) = false := by
          have : i = j := by omega
          simp [this]
        rename Fr _ _ _ _ => F12
        rename News _ _ _ _ => N12
        refine ⟨h8, tk8, _, ys2, k2, t ++ X, _, rfl, F12, N12, fun p hp => hp, ?_, hoff2, t, rfl, hofft, ?_⟩
        · show (if Str.ofString "one" = Str.ofString "other" then _ else if Str.ofString "one" = Str.ofString "one" then _ else _) = _
          rw [if_neg (by decide), if_pos rfl]
        · rw [rowTo_succ, hb, if_neg (by decide), List.append_nil]
          exact hys2
end

/-- the walk begins anew -/
theorem anewZ12 {M : Model} {A : Around} {E : Value → Shared → Prop} {Q : Value → Shared → Prop} {s : Shared} {env : Env} (h : ∀ v s', Q v s') : wpAny M A (eval (.Constant (.int 0) 0 ⟨0, 0, 0, 0⟩) env) Q E s := by
  w_top off
  first
    | (walk1; exact h _ _)
    | exact wpAny_Constant_int (h _ _)
def nmAt (names : List (List (List Str))) (i : Nat) : List (List Str) := names.getD i []
def toldF (names : List (List (List Str))) (pr : List Nat) : Bool := cmpF (nmAt names (pr.getD 0 0) ++ nmAt names (pr.getD 0 0)) (nmAt names (pr.getD 1 0)).reverse
theorem pair_shape : ∀ pr ∈ pairsTo 5, ∃ a b, pr = [a, b] ∧ a < 5 ∧ b < 5 := by
  intro pr h
  obtain ⟨a, ha, hb⟩ := List.mem_flatMap.mp h
  unfold rowTo at hb
  obtain ⟨b, hb2, rfl⟩ := List.mem_map.mp hb
  exact ⟨a, b, rfl, List.mem_range.mp ha, List.mem_range.mp (List.mem_filter.mp hb2).1⟩
theorem two_ints {ws : List Value} {a b : Nat} (h : NatsAre ws [a, b]) : ∃ t u, ws = [.int (a : Int) t, .int (b : Int) u] := by
  obtain ⟨t, r, rfl, h2⟩ := ints_cons h
  obtain ⟨u, r2, rfl, h3⟩ := ints_cons h2
  obtain rfl := ints_nil h3
  exact ⟨t, u, rfl⟩
theorem sameUp_one {L : Addr} {oL : Obj} {cs : List (Addr × Obj)} (h : TI.SameUp [(L, oL)] cs) : ∃ sl, cs = [(L, { oL with slots := sl })] := by
  cases cs with
  | nil => exact h.elim
  | cons q qs =>
    obtain ⟨h1, ⟨sl, h2⟩, h3⟩ := h
    cases qs with
    | nil => exact ⟨sl, by rw [← h2]; show [q] = [(L, q.2)]; rw [← show q.1 = L from h1]⟩
    | cons _ _ => exact h3.elim
theorem list_ne_L {h : Heap} {L b : Addr} {m : Str → Option Value} {its : Array Value} {n : Nat} (hn : h.Ns L m) (hb : h.get? b = some (listOf its n)) : b ≠ L := fun q => by
  obtain ⟨o, es, ep, ho, hd, _⟩ := hn
  rw [q, ho] at hb
  cases hb
  cases hd
local macro_rules | `(tactic| walk_at "binaryOp Mult ref int") => `(tactic| refine Stop.out ?_)
local macro_rules | `(tactic| walk_at "subscriptTail Subscript") => `(tactic| refine Stop.out ?_)
section
variable {w : World} {mean : ExcName → Option Value} {mg mb : Str → Option Value} {E : Value → Shared → Prop} {Q : Flow → Shared → Prop} {s : Shared} {g0 : Heap} {L f : Addr} {cdv : Value} {m : Str → Option Value} {dp un : Nat} {gd : Option (List Code)}
set_option maxHeartbeats 4000000 in
theorem st_told {st : Stmt} (hst : lawSt w 12 = st) (W : WF w mean mg mb g0) (F : Fr g0 L s.heap m) {o8 : Obj} {na pa : Addr} {nvs pvs : List Value} {names : List (List (List Str))} {kn kp : Nat} (N : News g0 L s.heap [(L + 1 + 1 + 1 + 1 + 1 + 1 + 1 + 1, o8)]) (d8 : o8.data = .cell (some (.ref na)))
    (hna : s.heap.get? na = some (listOf nvs.toArray kn)) (hn : All2 (NamesIn s.heap) nvs names) (hnl : names.length = 5) (hok : ∀ x ∈ names, x.length ≤ 5) (hm : m (Str.ofString "pairs") = some (.ref pa)) (hpa : s.heap.get? pa = some (listOf pvs.toArray kp)) (hp : All2 (IntsIn s.heap) pvs (pairsTo 5))
    (hd : dp + 50 < recursionLimit) (hu : un + 450 < cLine)
    (ret : ∀ D k h' tk', Fr g0 L h' (fun y => if y = Str.ofString "told" then some (.ref D) else m y) → (∀ b o, b ≠ L → s.heap.get? b = some o → h'.get? b = some o) → h'.get? D = some (listOf ((pairsTo 5).map fun pr => Value.bool (toldF names pr)).toArray k) → Q .next { s with heap := h', toks := tk' }) :
    wpAny (MD w) (Around.deeper ⟨none, dp, some [], gd, un⟩ (lawEnv w L f cdv)) (exec st (lawEnv w L f cdv)) Q E s := by
  subst hst
  obtain ⟨X', T'⟩ := W
  obtain ⟨S, hS⟩ : ∃ S, lawS w = S := ⟨_, rfl⟩
  unfold lawEnv
  rw [hS]
  conv at hS => lhs; whnf
  subst hS
  conv in (lawSt w 12) => whnf
  refine' Assign_gen_own ?hsw ?hclos rfl ?hnames ?hca ?hca0 ?hy ?hp ?h
  case hsw => with_unfolding_all rfl
  case hclos => with_unfolding_all rfl
  case hnames => decide
  case hca => intro n; rfl
  case hca0 => intro n; with_unfolding_all rfl
  case hy => with_unfolding_all rfl
  case hp => with_unfolding_all rfl
  have F0 : Fr g0 L s.heap m ∧ True := ⟨F, trivial⟩
  have F1 : Fr g0 L s.heap (fun y => if y = Str.ofString "pairs" then some (.ref pa) else m y) := frOver (ps := [(Str.ofString "pairs", some (.ref pa))]) F ⟨hm, trivial⟩
  clear F
  k_steps
  obtain ⟨F, _⟩ := F0
  clear F1
  have hpl := hp.length
  have hpl2 : (pairsTo 5).length = 20 := rfl
  refine' iter_listT (vs := pvs) rfl ?ht hpa ?hk
  case' hk => intro I fp wr St s₂ KI hfw
  case' hk => have hNs := ns_at KI (m := m) (L := L) (g := g0) F
  case' hk => obtain ⟨hs2, tks2, rfl⟩ := KI.same
  case' hk => refine ⟨I, fp, wr, _, _, St, m, rfl, KI.T, KI.st, hNs.1, ?_⟩
  case ht =>
    intro v hv
    obtain ⟨i, hi⟩ := List.getElem?_of_mem hv
    obtain ⟨x, _, a, _, _, rfl, _, _⟩ := hp.get hi
    exact ⟨a, rfl⟩
  intro D C h₁ R hD hC hns hk hDl st hR
  have hLw := hNs.2
  obtain ⟨oL, hoL⟩ : ∃ oL, s.heap.get? L = some oL := by obtain ⟨o, _, _, h, _⟩ := F.ns; exact ⟨o, h⟩
  have hwl : ∀ b ∈ wr, @LT.lt Nat _ b D := fun b hb => by
    obtain ⟨o, ho⟩ := KI.live b (KI.sub b hb)
    rw [hD]
    exact Heap.lt_size ho
  have hwn : ∀ b o, s.heap.get? b = some o → b ∉ wr := fun b o e hb => by
    have := KI.fresh b hb
    rw [e] at this; cases this
  have hg0 : ∀ b o, b ≠ L → s.heap.get? b = some o → (hideAll hs2 (L :: wr)).get? b = some o := fun b o hb e => hide_get (fun hm => (List.mem_cons.mp hm).elim hb (hwn b o e)) (KI.ext b o e)
  have hgL : (hideAll hs2 (L :: wr)).get? L = none := hideAll_none _ (.head _)
  have hg00 : Ext g0 (hideAll hs2 (L :: wr)) := fun b o e => hg0 _ _ (Nat.ne_of_lt (Nat.lt_of_lt_of_le (Heap.lt_size e) F.above)) (F.keep b o e)
  have Xg := X'.keeps hg00
  have Tg := T'.keeps hg00
  have hDC : D ≠ C := by rw [hC]; exact Nat.ne_of_lt (Nat.lt_succ_self _)
  have F1 : Fr (hideAll hs2 (L :: wr)) C h₁ (fun _ => none) := ⟨hns, fun b o e => hk b o (of_hideAll _ e), by rw [hideAll_size, hC, hD]; exact Nat.le_succ _⟩
  have hDn : (hideAll hs2 (L :: wr)).get? D = none := by
    cases e : (hideAll hs2 (L :: wr)).get? D with
    | none => rfl
    | some o => rw [hD] at e; exact absurd (Heap.lt_size (of_hideAll _ e)) (Nat.lt_irrefl _)
  have hLD : @LT.lt Nat _ L D := by rw [hD]; exact Heap.lt_size (KI.ext _ _ hoL)
  have hLC : L ≠ C := by rw [hC]; exact Nat.ne_of_lt (Nat.lt_succ_of_lt hLD)
  have N1 : News (hideAll hs2 (L :: wr)) C h₁ [(D, listOf #[] 0), (L, oL)] := fun p hp => by
    rcases List.mem_cons.mp hp with rfl | hp
    · exact ⟨hDl, hDC, hDn⟩
    · rw [List.mem_singleton.mp hp]
      exact ⟨hk _ _ (KI.ext _ _ hoL), hLC, hgL⟩
  have hCn : s.heap.get? C = none := by
    cases e : s.heap.get? C with
    | none => rfl
    | some o =>
      have h1 := Heap.lt_size (KI.ext _ _ e)
      have h2 : hs2.objs.size = D := hD.symm
      have h3 : @LT.lt Nat _ C hs2.objs.size := h1
      rw [h2, hC] at h3
      exact absurd (Nat.lt_of_succ_lt h3) (Nat.lt_irrefl _)
  have hpaL := list_ne_L F.ns hpa
  have hnaL := list_ne_L F.ns hna
  refine comp_coreE (fun _ => True) (g := hideAll hs2 (L :: wr)) (ys₀ := []) (turn_S _ _ _ _ _ _ _ _ _) rfl rfl KI.T ?hfp ?hwr hDC st F1 N1 ?hof trivial (fun i ys tl => (∃ sl, tl = [(L, { oL with slots := sl })]) ∧ ys = ((pairsTo 5).take i).map fun pr => Value.bool (toldF names pr)) ⟨⟨oL.slots, rfl⟩, rfl⟩ ?turn ?done
  case hof =>
    intro p hp
    rw [List.mem_singleton.mp hp]
    exact fun hm => (List.mem_cons.mp hm).elim (Nat.ne_of_lt hLD) hLw
  case hfp =>
    intro b hb hbw
    rcases hfw b hb with h | rfl
    · exact absurd h hbw
    · exact ⟨_, hg0 _ _ hpaL hpa⟩
  case hwr =>
    intro b hb
    have := hwl b hb
    exact ⟨hideAll_none _ (.tail _ hb), by rw [hC]; exact Nat.ne_of_lt (Nat.lt_succ_of_lt this), Nat.ne_of_lt this⟩
  case done =>
    rintro ys k tl h tk u ⟨⟨sl, rfl⟩, hys⟩ hoff _ Fh Nh hkp
    have hL1 := (Nh _ (.tail _ (.head _))).1
    have hnL : h.Ns L m := by
      obtain ⟨o, es, ep, h1, h2, h3⟩ := F.ns
      rw [hoL] at h1
      cases h1
      exact ⟨_, es, ep, hL1, h2, h3⟩
    refine hR h tk u Fh.ns hnL fun h' tk' hk' hn' => ?_
    have hCL : ∀ b o, s.heap.get? b = some o → b ≠ C := fun b o e q => by rw [q, hCn] at e; cases e
    have hDL : D ≠ L := Nat.ne_of_gt hLD
    rw [hpl, List.take_length] at hys
    subst hys
    exact ret D k h' tk' ⟨hn', fun b o e => hk' b o (hCL _ _ (F.keep _ _ e)) (Nat.ne_of_lt (Nat.lt_of_lt_of_le (Heap.lt_size e) F.above)) (Fh.keep _ _ (hg00 _ _ e)), F.above⟩ (fun b o hb e => hk' b o (hCL _ _ e) hb (Fh.keep _ _ (hg0 _ _ hb e))) (hk' _ _ (Nh _ (.head _)).2.1 hDL (Nh _ (.head _)).1)
  case turn =>
    rintro i v tu u X ys k tl h tk E' hi ⟨hv, rfl⟩ ⟨⟨sl, rfl⟩, rfl⟩ hoff hX hX2 _ F2 N2
    have N3 : News (hideAll hs2 (L :: wr)) C h ((D, listOf (((pairsTo 5).take i).map fun pr => Value.bool (toldF names pr)).toArray k) :: (L, { oL with slots := sl }) :: X) := N2
    obtain ⟨pr, hpr, qa, qvs, qn, rfl, hqa, hqI⟩ := hp.get hv
    obtain ⟨a, b, rfl, ha5, hb5⟩ := pair_shape pr (List.mem_of_getElem? hpr)
    obtain ⟨ta, tb, rfl⟩ := two_ints hqI
    obtain ⟨va, hva, nvA⟩ := hn.get' (List.getElem?_eq_getElem (show a < names.length by omega))
    obtain ⟨vb, hvb, nvB⟩ := hn.get' (List.getElem?_eq_getElem (show b < names.length by omega))
    have eA : names[a]'(by omega) = nmAt names a := by rw [nmAt, List.getD_eq_getElem?_getD, List.getElem?_eq_getElem (show a < names.length by omega)]; rfl
    have eB : names[b]'(by omega) = nmAt names b := by rw [nmAt, List.getD_eq_getElem?_getD, List.getElem?_eq_getElem (show b < names.length by omega)]; rfl
    have lA := hok _ (List.getElem_mem (show a < names.length by omega))
    have lB := hok _ (List.getElem_mem (show b < names.length by omega))
    rw [eA] at nvA lA
    rw [eB] at nvB lB
    obtain ⟨xa, xvs, xn, rfl, hxa, hxA⟩ := nvA
    obtain ⟨ya, yvs, yn, rfl, hya, hyA⟩ := nvB
    have hxl := hxA.length
    have hyl := hyA.length
    have g1 := hg0 _ _ (list_ne_L F.ns hqa) hqa
    have g2 := hg0 _ _ hnaL hna
    have g3 := hg0 _ _ (N _ (.head _)).2.1 (N _ (.head _)).1
    have g4 := hg0 _ _ (list_ne_L F.ns hxa) hxa
    have g5 := hg0 _ _ (list_ne_L F.ns hya) hya
    have lIn : ∀ {v x}, ListIn s.heap v x → ListIn (hideAll hs2 (L :: wr)) v x := fun {v x} hv => by
      obtain ⟨c, cvs, cn, rfl, hc, hcS⟩ := hv
      exact ⟨c, cvs, cn, rfl, hg0 _ _ (list_ne_L F.ns hc) hc, hcS⟩
    have gA := hxA.mono fun v x hv => lIn hv
    have gB := hyA.mono fun v x hv => lIn hv
    clear N2 F1 N1
    refine assignC_LLL rfl rfl ?hx ?hx2 F2 N3 ⟨_, F2.keep _ _ g1, rfl, _, rfl⟩ ?hh
    case hx => with_unfolding_all rfl
    case hx2 => with_unfolding_all rfl
    intro h6 tk6 F6 N6
    clear F2 N3
    refine wpAny_tests_nil ?_
    rw [if_pos rfl]
    refine emit1_rule ?_
    have FF : (Fr g0 L s.heap m ∧ News g0 L s.heap [(L + 1 + 1 + 1 + 1 + 1 + 1 + 1 + 1, o8)]) ∧ True := ⟨⟨F, N⟩, trivial⟩
    clear F N X' T'
    dsimp only
    k_steps
    unfold Stop
    rename Fr _ _ _ _ => F7
    rename News _ _ _ _ => N7
    refine KMa.mul F7 N7 ⟨_, F7.keep _ _ g4, rfl, _, rfl⟩ (by decide) (by decide) (by rw [show (2 : Int).toNat = 2 from rfl]; omega) rfl ?_
    intro D1 h7 F8 N8 l8
    clear F7 N7
    dsimp only
    k_steps
    rename Fr _ _ _ _ => F9
    rename News _ _ _ _ => N9
    unfold Stop
    refine kba_turn (value' := PySem.Expr.Name (PySem.Str.ofString "_") ⟨0, 0, 0, 0⟩) (fun _ => rfl) ?_
    refine' krv_lit (its := yvs.toArray) (zs := yvs.reverse) F9 N9 ⟨_, F9.keep _ _ g5, rfl, _, rfl⟩ (IsPart.int _ _) (by simp) ?_ ?s ?t ?z
    case s => with_unfolding_all rfl
    case t => kmk_pure
    case z => (rw [sizeLine_eq, List.size_toArray]; omega)
    intro D2 h8 F10 N10 l10
    clear F9 N9
    dsimp only
    k_steps
    unfold Stop
    rename Fr _ _ _ _ => F11
    rename News _ _ _ _ => N11
    have hNL := N11 (L, { oL with slots := sl }) (by simp)
    have hD1L : D1 ≠ L := fun e => by
      have := l8 (L, { oL with slots := sl }) (by simp)
      rw [e] at this
      exact Nat.lt_irrefl _ this
    have hD2L : D2 ≠ L := fun e => by
      have := l10 (L, { oL with slots := sl }) (by simp)
      rw [e] at this
      exact Nat.lt_irrefl _ this
    have up1 : Ext (hideAll hs2 (L :: wr)) (hideAll h8 [L]) := fun b o e => hide_get (fun hm => by
      rw [List.mem_singleton.mp hm, hgL] at e; cases e) (F11.keep b o e)
    have hoLd : ∃ es ep, oL.data = .dict es ep := by
      obtain ⟨o, es, ep, h1, h2, h3⟩ := FF.1.1.ns
      rw [hoL] at h1
      cases h1
      exact ⟨es, ep, h2⟩
    have e2 : (List.replicate (Int.toNat 2) xvs).flatten = xvs ++ xvs := by simp
    have hA2 := (gA.append gA).lists.ext up1
    have hB2 := ((All2.rev gB)).lists.ext up1
    refine law_compare (frs := [(L, { oL with slots := sl })]) (WF.keeps ⟨Xg, Tg⟩ up1) (vs := xvs ++ xvs) (ws := yvs.reverse) (hide_get (fun hm => hD1L (List.mem_singleton.mp hm)) (by rw [← e2]; exact (N11 _ (.tail _ (.head _))).1)) hA2 (by rw [List.length_append]; omega)
      (hide_get (fun hm => hD2L (List.mem_singleton.mp hm)) (N11 _ (.head _)).1) hB2 (by rw [List.length_reverse]; omega) ?kd ?ku rfl rfl ⟨?f1, rfl, hoLd, trivial⟩ (fun p hp => by rw [List.mem_singleton.mp hp]; exact hNL.1) ?_
    case kd => walk_at "D"
    case ku => walk_at "U"
    case f1 => exact fun e => nomatch e
    intro h9 tk9 frs' SU hf hE
    obtain ⟨sl2, rfl⟩ := sameUp_one SU
    have hE' : ∀ b o, b ≠ L → h8.get? b = some o → h9.get? b = some o := fun b o hb e => hE b o (hide_get (fun hm => hb (List.mem_singleton.mp hm)) e)
    have hL9 := hf _ (.head _)
    have hDL : D ≠ L := Nat.ne_of_gt hLD
    have hDw : D ∉ wr := fun hm => Nat.lt_irrefl _ (hwl D hm)
    have hN8 := N11 (D, listOf (((pairsTo 5).take i).map fun pr => Value.bool (toldF names pr)).toArray k) (by simp)
    have hD9 := hE' _ _ hDL hN8.1
    have hX9 : ∀ p ∈ X, h9.get? p.1 = some p.2 ∧ p.1 ≠ C ∧ (hideAll hs2 (L :: wr)).get? p.1 = none ∧ p.1 ≠ D ∧ p.1 ≠ L := fun p hp => by
      have h1 := N11 p (by simp [hp])
      have hpw := hX2 p hp
      have hpL : p.1 ≠ L := fun e => hLw (e ▸ hpw)
      exact ⟨hE' _ _ hpL h1.1, h1.2.1, h1.2.2, fun e => hDw (e ▸ hpw), hpL⟩
    have hys : (((pairsTo 5).take i).map fun pr => Value.bool (toldF names pr)).length ≤ 20 := by rw [List.length_map, List.length_take]; omega
    refine wpAny_list_append_plain (items := (((pairsTo 5).take i).map fun pr => Value.bool (toldF names pr)).toArray) ⟨k, hD9⟩ (fun h₄ hl₄ hs₄ => ?_) (by rw [List.size_toArray, sizeLine_eq]; omega)
    obtain ⟨k', hl₄⟩ := hl₄
    have up : ∀ b o, b ≠ D → h9.get? b = some o → h₄.get? b = some o := fun b o hb e => hs₄.extBut b o hb e
    have F13 := (⟨(F11.ns.at' fun o e => hE' _ o (Ne.symm hLC) e).at' fun o e => up _ o (Ne.symm hDC) e, fun b o e => up b o (fun hb => by rw [hb, hDn] at e; cases e) (hE' b o (fun hb => by rw [hb, hgL] at e; cases e) (F11.keep b o e)), F11.above⟩ : Fr (hideAll hs2 (L :: wr)) C h₄ _)
    have N13 : News (hideAll hs2 (L :: wr)) C h₄ ((D, listOf ((((pairsTo 5).take i).map fun pr => Value.bool (toldF names pr)) ++ [Value.bool (toldF names [a, b])]).toArray k') :: (L, { oL with slots := sl2 }) :: X) := fun p hp => by
      rcases List.mem_cons.mp hp with rfl | hp
      · exact ⟨by rw [hl₄]; simp [toldF], hDC, hDn⟩
      · rcases List.mem_cons.mp hp with rfl | hp
        · exact ⟨up _ _ (Ne.symm hDL) hL9, hLC, hgL⟩
        · have := hX9 p hp
          exact ⟨up _ _ this.2.2.2.1 this.1, this.2.1, this.2.2.1⟩
    refine ⟨rfl, h₄, _, _, _, k', [(L, { oL with slots := sl2 })], _, rfl, F13, N13, fun p hp => hp, trivial, fun p hp => ?_, ⟨sl2, rfl⟩, ?_⟩
    · rw [List.mem_singleton.mp hp]
      exact fun hm => (List.mem_cons.mp hm).elim (Nat.ne_of_lt hLD) hLw
    · rw [List.take_add_one, hpr, List.map_append]
      rfl
end

/-- the walk begins anew -/
theorem anewZ13 {M : Model} {A : Around} {E : Value → Shared → Prop} {Q : Value → Shared → Prop} {s : Shared} {env : Env} (h : ∀ v s', Q v s') : wpAny M A (eval (.Constant (.int 0) 0 ⟨0, 0, 0, 0⟩) env) Q E s := by
  w_top off
  first
    | (walk1; exact h _ _)
    | exact wpAny_Constant_int (h _ _)
def kpAt (kept : List (List Nat)) (i : Nat) : List Nat := kept.getD i []
def sameF (kept : List (List Nat)) (pr : List Nat) : Bool := (kpAt kept (pr.getD 0 0)).isPerm (kpAt kept (pr.getD 1 0))
local macro_rules | `(tactic| walk_at "call builtin:sorted") => `(tactic| refine Stop.out ?_)
local macro_rules | `(tactic| walk_at "compareOp Eq ref ref") => `(tactic| refine Stop.out ?_)
section
variable {w : World} {mean : ExcName → Option Value} {mg mb : Str → Option Value} {E : Value → Shared → Prop} {Q : Flow → Shared → Prop} {s : Shared} {g0 : Heap} {L f : Addr} {cdv : Value} {m : Str → Option Value} {dp un : Nat} {fr : Option (List Env)} {gd : Option (List Code)}
set_option maxHeartbeats 4000000 in
theorem st_same {st : Stmt} (hst : lawSt w 13 = st) (W : WF w mean mg mb g0) (F : Fr g0 L s.heap m) {o7 : Obj} {ka pa : Addr} {kvs pvs : List Value} {kept : List (List Nat)} {kk kp : Nat} (N : News g0 L s.heap [(L + 1 + 1 + 1 + 1 + 1 + 1 + 1, o7)]) (d7 : o7.data = .cell (some (.ref ka)))
    (hka : s.heap.get? ka = some (listOf kvs.toArray kk)) (hk0 : All2 (IntsIn s.heap) kvs kept) (hkl : kept.length = 5) (hok : ∀ x ∈ kept, x.length ≤ 5) (hm : m (Str.ofString "pairs") = some (.ref pa)) (hpa : s.heap.get? pa = some (listOf pvs.toArray kp)) (hp : All2 (IntsIn s.heap) pvs (pairsTo 5))
    (hd : dp + 50 < recursionLimit) (hu : un + 450 < cLine)
    (ret : ∀ D k h' tk', Fr g0 L h' (fun y => if y = Str.ofString "same" then some (.ref D) else m y) → (∀ b o, b ≠ L → s.heap.get? b = some o → h'.get? b = some o) → h'.get? D = some (listOf ((pairsTo 5).map fun pr => Value.bool (sameF kept pr)).toArray k) → Q .next { s with heap := h', toks := tk' }) :
    wpAny (MD w) (Around.deeper ⟨none, dp, fr, gd, un⟩ (lawEnv w L f cdv)) (exec st (lawEnv w L f cdv)) Q E s := by
  subst hst
  obtain ⟨X', T'⟩ := W
  obtain ⟨S, hS⟩ : ∃ S, lawS w = S := ⟨_, rfl⟩
  unfold lawEnv
  rw [hS]
  conv at hS => lhs; whnf
  subst hS
  conv in (lawSt w 13) => whnf
  refine' Assign_ListComp_own (ca := fun n => []) ?hsw ?hclos rfl ?hnames ?hca ?hca0 ?hy ?hp ?h
  case hsw => with_unfolding_all rfl
  case hclos => with_unfolding_all rfl
  case hnames => decide
  case hca => intro n; rfl
  case hca0 => intro n; with_unfolding_all rfl
  case hy => with_unfolding_all rfl
  case hp => with_unfolding_all rfl
  have F0 : Fr g0 L s.heap m ∧ True := ⟨F, trivial⟩
  have F1 : Fr g0 L s.heap (fun y => if y = Str.ofString "pairs" then some (.ref pa) else m y) := frOver (ps := [(Str.ofString "pairs", some (.ref pa))]) F ⟨hm, trivial⟩
  clear F
  k_steps
  obtain ⟨F, _⟩ := F0
  clear F1
  have hpl := hp.length
  have hpl2 : (pairsTo 5).length = 20 := rfl
  refine' iter_listT (vs := pvs) rfl ?ht hpa ?hk
  case' hk => intro I fp wr St s₂ KI hfw
  case' hk => have hNs := ns_at KI (m := m) (L := L) (g := g0) F
  case' hk => obtain ⟨hs2, tks2, rfl⟩ := KI.same
  case' hk => refine ⟨I, fp, wr, _, _, St, _, m, hNs.1, hNs.2, comp_at KI (by rw [sizeLine_eq]; omega) (fun i ys tl => tl = [] ∧ ys = ((pairsTo 5).take i).map fun pr => Value.bool (sameF kept pr)) ⟨rfl, rfl⟩ ?turn2 ?done2⟩
  case ht =>
    intro v hv
    obtain ⟨i, hi⟩ := List.getElem?_of_mem hv
    obtain ⟨x, _, a, _, _, rfl, _, _⟩ := hp.get hi
    exact ⟨a, rfl⟩
  case done2 =>
    rintro D4 ys k tl h5 tk5 ⟨_, hys⟩ hDn hk5 hD4 htl hNs5
    have hk5 : ∀ b o, b ≠ L → s.heap.get? b = some o → h5.get? b = some o := fun b o hb e => hk5 b o (fun hm => hb (List.mem_singleton.mp hm)) e
    rw [hpl, List.take_length] at hys
    subst hys
    exact ret D4 k h5 tk5 ⟨hNs5, fun b o e => hk5 b o (Nat.ne_of_lt (Nat.lt_of_lt_of_le (Heap.lt_size e) F.above)) (F.keep b o e), F.above⟩ hk5 hD4
  case turn2 =>
    rintro D4 C g wr i v tu u X cs ys k tl h5 tk5 E' hg rfl hi ⟨hv, rfl⟩ ⟨rfl, rfl⟩ hoff hX hX2 hcs hlen5 F5 N5
    obtain rfl := cells_none hcs
    obtain ⟨pr, hpr, qa, qvs, qn, rfl, hqa, hqI⟩ := hp.get hv
    obtain ⟨a, b, rfl, ha5, hb5⟩ := pair_shape pr (List.mem_of_getElem? hpr)
    obtain ⟨ta, tb, rfl⟩ := two_ints hqI
    obtain ⟨va, hva, nvA⟩ := hk0.get' (List.getElem?_eq_getElem (show a < kept.length by omega))
    obtain ⟨vb, hvb, nvB⟩ := hk0.get' (List.getElem?_eq_getElem (show b < kept.length by omega))
    have eA : kept[a]'(by omega) = kpAt kept a := by rw [kpAt, List.getD_eq_getElem?_getD, List.getElem?_eq_getElem (show a < kept.length by omega)]; rfl
    have eB : kept[b]'(by omega) = kpAt kept b := by rw [kpAt, List.getD_eq_getElem?_getD, List.getElem?_eq_getElem (show b < kept.length by omega)]; rfl
    have lA := hok _ (List.getElem_mem (show a < kept.length by omega))
    have lB := hok _ (List.getElem_mem (show b < kept.length by omega))
    rw [eA] at nvA lA
    rw [eB] at nvB lB
    obtain ⟨xa, xvs, xn, rfl, hxa, hxA⟩ := nvA
    obtain ⟨ya, yvs, yn, rfl, hya, hyA⟩ := nvB
    have hg : Ext s.heap g := hg
    have g1 := hg _ _ hqa
    have g2 := hg _ _ hka
    have g3 := hg _ _ (N _ (.head _)).1
    have g4 := hg _ _ hxa
    have g5 := hg _ _ hya
    have Xg := X'.keeps fun b o e => hg _ _ (F.keep b o e)
    have Tg := T'.keeps fun b o e => hg _ _ (F.keep b o e)
    have N6 : News g (D4 + 1) h5 ((D4, listOf (((pairsTo 5).take i).map fun pr => Value.bool (sameF kept pr)).toArray k) :: X) := N5
    clear N5
    refine assignC_LLL rfl rfl ?hx ?hx2 F5 N6 ⟨_, F5.keep _ _ g1, rfl, _, rfl⟩ ?hh
    case hx => with_unfolding_all rfl
    case hx2 => with_unfolding_all rfl
    intro h6 tk6 F7 N7
    clear F5 N6
    refine wpAny_tests_nil ?_
    clear F N X' T' KI hNs
    dsimp only
    k_steps
    unfold Stop
    rename Fr _ _ _ _ => F8
    rename News _ _ _ _ => N8
    refine kso_sorted F8 N8 ⟨_, F8.keep _ _ g4, rfl, _, rfl⟩ hxA (by rw [List.length_map]; omega) fun D1 vs1 ns1 c1 h7 F9 N9 l9 i1 _ p1 s1 _ => ?_
    clear F8 N8
    dsimp only
    k_steps
    unfold Stop
    rename Fr _ _ _ _ => F8
    rename News _ _ _ _ => N8
    refine kso_sorted F8 N8 ⟨_, F8.keep _ _ g5, rfl, _, rfl⟩ hyA (by rw [List.length_map]; omega) fun D2 vs2 ns2 c2 h8 F10 N10 l10 i2 _ p2 s2 _ => ?_
    clear F8 N8
    dsimp only
    k_steps
    unfold Stop
    rename Fr _ _ _ _ => F8
    rename News _ _ _ _ => N8
    refine eq_ints (isl N8 (.tail _ (.head _))) (isl N8 (.head _)) i1 i2 (by walk_at "U") ?_
    refine EltEnd.mk [] [] F8 N8 (fun p hp => ?_) ⟨rfl, fun _ h => nomatch h⟩ (fun _ h => nomatch h) (And.intro rfl ?_)
    · simp only [List.mem_cons, List.mem_append, List.cons_append, List.nil_append] at hp ⊢
      rcases hp with h | h <;> simp [h]
    · rw [List.take_add_one, hpr, List.map_append, sorted_eq p1 s1 p2 s2]
      rfl
end

/-- the walk begins anew -/
theorem anewZ14 {M : Model} {A : Around} {E : Value → Shared → Prop} {Q : Value → Shared → Prop} {s : Shared} {env : Env} (h : ∀ v s', Q v s') : wpAny M A (eval (.Constant (.int 0) 0 ⟨0, 0, 0, 0⟩) env) Q E s := by
  w_top off
  first
    | (walk1; exact h _ _)
    | exact wpAny_Constant_int (h _ _)
local macro_rules | `(tactic| walk_at "binaryOp Add ref ref") => `(tactic| refine Stop.out ?_)
local macro_rules | `(tactic| walk_at "subscriptTail Name Slice ref ref") => `(tactic| refine Stop.out ?_)
section
variable {w : World} {mean : ExcName → Option Value} {mg mb : Str → Option Value} {E : Value → Shared → Prop} {Q : Flow → Shared → Prop} {s : Shared} {g0 : Heap} {L f : Addr} {cdv : Value} {m : Str → Option Value} {dp un : Nat} {fr : Option (List Env)} {gd : Option (List Code)}
set_option maxHeartbeats 4000000 in
theorem st_return {st : Stmt} (hst : lawSt w 14 = st) (W : WF w mean mg mb g0) (F : Fr g0 L s.heap m) {o8 : Obj} {na ta sa : Addr} {nvs : List Value} {bs : List Bool} {names : List (List (List Str))} {kn kt ks : Nat} (N : News g0 L s.heap [(L + 1 + 1 + 1 + 1 + 1 + 1 + 1 + 1, o8)]) (d8 : o8.data = .cell (some (.ref na)))
    (hna : s.heap.get? na = some (listOf nvs.toArray kn)) (hn : All2 (NamesIn s.heap) nvs names) (hnl : names.length = 5) (hok : ∀ x ∈ names, x.length ≤ 5) (hdd : ∀ x ∈ names, dedupF (x ++ x.reverse) = x)
    (hmt : m (Str.ofString "told") = some (.ref ta)) (hms : m (Str.ofString "same") = some (.ref sa)) (hta : s.heap.get? ta = some (listOf (bs.map Value.bool).toArray kt)) (hsa : s.heap.get? sa = some (listOf (bs.map Value.bool).toArray ks))
    (hd : dp + 50 < recursionLimit) (hu : un + 450 < cLine)
    (ret : ∀ h' tk' m', Fr g0 L h' m' → Q (.ret (.bool true)) { s with heap := h', toks := tk' }) :
    wpAny (MD w) (Around.deeper ⟨none, dp, fr, gd, un⟩ (lawEnv w L f cdv)) (exec st (lawEnv w L f cdv)) Q E s := by
  subst hst
  obtain ⟨X', T'⟩ := W
  obtain ⟨S, hS⟩ : ∃ S, lawS w = S := ⟨_, rfl⟩
  unfold lawEnv
  rw [hS]
  conv at hS => lhs; whnf
  subst hS
  conv in (lawSt w 14) => whnf
  have F0 : Fr g0 L s.heap m ∧ True := ⟨F, trivial⟩
  have F1 : Fr g0 L s.heap (fun y => if y = Str.ofString "told" then some (.ref ta) else if y = Str.ofString "same" then some (.ref sa) else m y) := frOver (ps := [(Str.ofString "told", some (.ref ta)), (Str.ofString "same", some (.ref sa))]) F ⟨hmt, hms, trivial⟩
  clear F
  k_steps
  unfold Stop
  have hnl2 := hn.length
  refine eq_same ⟨_, hta, rfl, kt, rfl⟩ ⟨_, hsa, rfl, ks, rfl⟩ (by walk_at "U") ⟨rfl, fun j v w hv hw => ?_⟩ ?_
  · rw [hv] at hw
    cases hw
    exact SeqAt.EqAt.same v
  k_steps
  unfold Stop
  refine' ListComp_own (ca := fun n => []) ?hclos rfl ?hnames ?hca ?hca0 ?h
  case hclos => with_unfolding_all rfl
  case hnames => decide
  case hca => intro n; rfl
  case hca0 => intro n; with_unfolding_all rfl
  k_steps
  refine' iter_list (vs := nvs) rfl ?ht hna ?hk
  case' hk => intro I fp wr St s₂ KI
  case' hk => obtain ⟨hs2, tks2, rfl⟩ := KI.same
  case' hk => refine ⟨I, fp, wr, _, _, St, _, comp_at KI (by rw [sizeLine_eq]; omega) (fun i ys tl => All2 (InLed tl fun vs x => All2 (ListIn s.heap) vs x) ys (names.take i)) .nil ?turn ?done⟩
  case ht => intro I v; with_unfolding_all rfl
  case done =>
    rintro D2 zs2 k2 tl2 h2 tk2 hys2 hDn2 hk2 hD2 htl2
    have k02 : Ext s.heap h2 := fun b o e => hk2 b o (fun h => nomatch h) e
    have F3 := frExt F1 k02
    have N3 := newsExt N k02
    rw [List.take_of_length_le (by omega)] at hys2
    clear F1 N
    k_steps
    unfold Stop
    refine eq_same ⟨_, hD2, rfl, k2, rfl⟩ ⟨_, k02 _ _ hna, rfl, kn, rfl⟩ (by walk_at "U") (Same.of hys2 hn fun v w x h4 h3 => ?_) ?_
    · obtain ⟨a, avs, an, rfl, ha, hA⟩ := h3
      obtain ⟨b, bvs, bn, rfl, hb, hB⟩ := h4
      exact eqAt_same ⟨_, (htl2 _ hb).1, rfl, bn, rfl⟩ ⟨_, k02 _ _ ha, rfl, an, rfl⟩ (by walk_at "U") (Same.lists (hB.mono fun v x hv => hv.ext k02) (hA.mono fun v x hv => hv.ext k02) (by walk_at "U"))
    k_steps
    exact ret _ _ _ (frExt F0.1 k02)
  case turn =>
    rintro D4 C g wr i v tu u X cs ys k tl h5 tk5 E' hg rfl hi ⟨hy, rfl⟩ hys hoff hX hX2 hcs hlen5 F5 N5
    obtain rfl := cells_none hcs
    obtain ⟨one, hone, ya, yvs, yn, rfl, hya, hyS⟩ := hn.get hy
    have hg : Ext s.heap g := hg
    have g2 := hg _ _ hya
    have Xg := X'.keeps fun b o e => hg _ _ (F1.keep b o e)
    have Tg := T'.keeps fun b o e => hg _ _ (F1.keep b o e)
    have hom := List.mem_of_getElem? hone
    have hol := hok _ hom
    have hyl := hyS.length
    have N6 : News g (D4 + 1) h5 ((D4, listOf ys.toArray k) :: (tl ++ X)) := N5
    clear N5
    refine assignC_L rfl ?hx F5 N6 ?hh
    case hx => with_unfolding_all rfl
    intro h6 tk6 F7 N7
    clear F5 N6
    refine wpAny_tests_nil ?_
    clear N X' T' KI F1
    dsimp only
    k_steps
    unfold Stop
    rename Fr _ _ _ _ => F8
    rename News _ _ _ _ => N8
    refine' krv_lit (its := yvs.toArray) (zs := yvs.reverse) F8 N8 ⟨_, F8.keep _ _ g2, rfl, _, rfl⟩ (IsPart.int _ _) (by simp) ?_ ?s ?t ?z
    case s => with_unfolding_all rfl
    case t => kmk_pure
    case z => (rw [sizeLine_eq, List.size_toArray]; omega)
    intro D1 h7 F9 N9 l9
    clear F8 N8
    dsimp only
    k_steps
    unfold Stop
    rename Fr _ _ _ _ => F8
    rename News _ _ _ _ => N8
    refine add_any F8 N8 ⟨_, F8.keep _ _ g2, rfl, _, rfl⟩ (isl N8 (.head _)) (by rw [List.length_reverse]; omega) fun D2 h8 F10 N10 l10 => ?_
    clear F8 N8
    dsimp only
    k_steps
    unfold Stop
    rename Fr _ _ _ _ => F8
    rename News _ _ _ _ => N8
    have hL0 : ListsAre s.heap (yvs ++ yvs.reverse) (one ++ one.reverse) := (hyS.append hyS.rev).lists
    have hL1 := (hL0.ext hg).ext F8.keep
    refine dedup (wf_of Xg Tg F8) (N8 _ (.head _)).1 hL1 (by rw [List.length_append, List.length_reverse]; omega) ?kd ?ku rfl ?_
    case kd => walk_at "D"
    case ku => walk_at "U"
    intro D6 ws6 kn6 h9 tk9 hS9 hE9 hf9 hg9
    have F11 := frExt F8 hE9
    have N11 := newsCons F8 (newsExt N8 hE9) hE9 hf9 hg9
    have hws := hS9 _ hL0
    rw [hdd _ hom] at hws
    have hN8 : News g (D4 + 1) h8 ((D4, listOf ys.toArray k) :: ([] ++ (tl ++ ([] ++ X)))) := fun p hp => N8 p (by
      simp only [List.mem_cons, List.mem_append, List.nil_append] at hp ⊢
      rcases hp with h | h | h <;> simp [h])
    refine EltEnd.mk [] ((D6, listOf ws6.toArray kn6) :: tl) F11 N11 (fun p hp => ?_) ⟨rfl, fun _ h => nomatch h⟩ (hoff.cons (off_new (ca := []) (od := listOf ys.toArray k) (cs := []) (rest := []) hN8 ⟨rfl, fun _ h => nomatch h⟩ hX hf9)) ?_
    · simp only [List.mem_cons, List.mem_append, List.cons_append, List.nil_append] at hp ⊢
      rcases hp with h | h | h | h <;> simp [h]
    · rw [List.take_add_one, hone]
      exact All2.snoc (hys.mono fun v x hv => hv.more fun p hp => .tail _ hp) (InLed.new (All2.ofLists hws))
end

end
section
/-- the walk begins anew -/
theorem anewY1 {M : Model} {A : Around} {E : Value → Shared → Prop} {Q : Value → Shared → Prop} {s : Shared} {env : Env} (h : ∀ v s', Q v s') : wpAny M A (eval (.Constant (.int 0) 0 ⟨0, 0, 0, 0⟩) env) Q E s := by
  w_top off
  first
    | (walk1; exact h _ _)
    | exact wpAny_Constant_int (h _ _)
theorem page_lt : ∀ a, a < 5 → ∀ b, b < 5 → a < b → strLt (pageAt a) (pageAt b) = true := by decide +kernel
theorem page_inj {a b : Nat} (ha : a < 5) (hb : b < 5) (e : pageAt a = pageAt b) : a = b := by
  rcases Nat.lt_trichotomy a b with h | h | h
  · have := page_lt a ha b hb h
    rw [e, strLt_irr] at this
    cases this
  · exact h
  · have := page_lt b hb a ha h
    rw [e, strLt_irr] at this
    cases this
theorem keptGo_ok (es : List (List Nat)) : ∀ n K front, (K ++ front).Nodup → (∀ x ∈ K ++ front, x < 5) → (keptGo n es K front).Nodup ∧ ∀ x ∈ keptGo n es K front, x < 5 := by
  intro n
  induction n with
  | zero => intro K front h1 h2; exact ⟨(List.nodup_append.mp h1).1, fun x hx => h2 x (List.mem_append_left _ hx)⟩
  | succ n ih =>
    intro K front h1 h2
    rw [keptGo]
    split
    · exact ⟨(List.nodup_append.mp h1).1, fun x hx => h2 x (List.mem_append_left _ hx)⟩
    · exact ih _ _ (front_nd h1) (front_lt h2)
/-- the walk's state, by levels -/
structure Lev (es : List (List Nat)) (R : List Nat) (n : Nat) (d : Int) (K A B E1 E2 : List Nat) : Prop where
  go : keptGo n es K (A ++ B) = R
  e1 : ∀ q ∈ E1, q ∈ K ++ A ∨ q ∈ B
  b1 : ∀ b ∈ B, b ∈ E1
  e2 : ∀ q, q ∈ E2 ↔ ∃ p ∈ A, q ∈ es.getD p []
  nd : (K ++ (A ++ B)).Nodup
  lt : ∀ x ∈ K ++ (A ++ B), x < 5
  srt : B.Pairwise (· < ·)
  fuel : 6 ≤ n + K.length
  cnt : E1.length + E2.length ≤ 1 + 4 * (K ++ A).length
theorem Lev.short {es : List (List Nat)} {R : List Nat} {n : Nat} {d : Int} {K A B E1 E2 : List Nat} (H : Lev es R n d K A B E1 E2) : K.length + A.length + B.length ≤ 5 := by
  have := short_of H.nd H.lt
  simp only [List.length_append] at this
  omega
theorem frontF_mem {es : List (List Nat)} {kept front : List Nat} {x : Nat} : x ∈ frontF es kept front ↔ x < 5 ∧ x ∉ kept ∧ ∃ p ∈ front, x ∈ es.getD p [] := by
  unfold frontF
  rw [List.mem_filter, List.mem_range]
  simp only [Bool.and_eq_true, Bool.not_eq_true', List.contains_iff_mem, List.any_eq_true, Bool.eq_false_iff, ne_eq]
theorem Lev.up {es : List (List Nat)} {R : List Nat} {n : Nat} {d : Int} {K A E2 : List Nat} (hes : ∀ k, ∀ q ∈ es.getD k [], q < 5) (H : Lev es R n d K A [] [] E2) (hA : A ≠ []) : ∃ n', n = n' + 1 ∧ Lev es R n' (d + 1) (K ++ A) [] (frontF es (K ++ A) A) E2 [] := by
  obtain ⟨go, e1, b1, e2, nd, lt, srt, fuel, cnt⟩ := H
  have hs := short_of nd lt
  simp only [List.length_append, List.length_nil] at hs
  have hA0 : 0 < A.length := List.length_pos_iff.mpr hA
  obtain ⟨n', rfl⟩ : ∃ n', n = n' + 1 := ⟨n - 1, by omega⟩
  refine ⟨n', rfl, ?_, fun q hq => ?_, fun b hb => ?_, fun q => ?_, ?_, ?_, ?_, ?_, ?_⟩
  · rw [← go, List.append_nil, keptGo, if_neg (by simpa using hA)]
    rfl
  · obtain ⟨p, hp, hq⟩ := (e2 q).mp hq
    by_cases hk : q ∈ K ++ A
    · exact .inl (by rw [List.append_nil]; exact hk)
    · exact .inr (frontF_mem.mpr ⟨hes p q hq, hk, p, hp, hq⟩)
  · exact (e2 b).mpr (frontF_mem.mp hb).2.2
  · simp
  · rw [List.append_nil] at nd
    exact front_nd nd
  · rw [List.append_nil] at lt
    exact front_lt lt
  · exact List.pairwise_lt_range.filter _
  · rw [List.length_append]; omega
  · rw [List.append_nil]
    simpa using cnt
/-- the entries of a state -/
def entsOf (d : Int) (E1 E2 : List Nat) : List Ent := E1.map (fun q => (d, pageAt q)) ++ E2.map (fun q => (d + 1, pageAt q))
def WInv (es : List (List Nat)) (R : List Nat) (k : List Str) (ents : List Ent) : Prop :=
  ∃ n d K A B E1 E2, Lev es R n d K A B E1 E2 ∧ k = (K ++ A).map pageAt ∧ ents.Perm (entsOf d E1 E2)
theorem WInv.full {es : List (List Nat)} {R : List Nat} {k : List Str} {e : Ent} {ents : List Ent} (hes : ∀ k, ∀ q ∈ es.getD k [], q < 5) (H : WInv es R k (e :: ents)) :
    ∃ n d K A B E1 E2, Lev es R n d K A B E1 E2 ∧ k = (K ++ A).map pageAt ∧ (e :: ents).Perm (entsOf d E1 E2) ∧ E1 ≠ [] := by
  obtain ⟨n, d, K, A, B, E1, E2, L, hk, hp⟩ := H
  cases E1 with
  | cons a E1 => exact ⟨n, d, K, A, B, a :: E1, E2, L, hk, hp, by simp⟩
  | nil =>
    have hB : B = [] := List.eq_nil_iff_forall_not_mem.mpr fun b hb => by have := L.b1 b hb; cases this
    subst hB
    have hE2 : E2 ≠ [] := fun h => by
      subst h
      have := hp.length_eq
      simp [entsOf] at this
    obtain ⟨q, hq⟩ := List.exists_mem_of_ne_nil _ hE2
    obtain ⟨p, hpA, _⟩ := (L.e2 q).mp hq
    obtain ⟨n', rfl, L'⟩ := L.up hes (List.ne_nil_of_mem hpA)
    exact ⟨n', d + 1, K ++ A, [], _, E2, [], L', by rw [List.append_nil]; exact hk, by simpa [entsOf] using hp, hE2⟩
/-- the least entry is of the lower level -/
theorem WInv.least {es : List (List Nat)} {R : List Nat} {k : List Str} {e : Ent} {ents : List Ent} (hes : ∀ k, ∀ q ∈ es.getD k [], q < 5) (H : WInv es R k (e :: ents)) (hmin : ∀ q ∈ ents, entLt q e = false) :
    ∃ n d K A B E1 E2 q, Lev es R n d K A B E1 E2 ∧ k = (K ++ A).map pageAt ∧ (e :: ents).Perm (entsOf d E1 E2) ∧ q ∈ E1 ∧ e = (d, pageAt q) := by
  obtain ⟨n, d, K, A, B, E1, E2, L, hk, hp, hE⟩ := H.full hes
  obtain ⟨q1, hq1⟩ := List.exists_mem_of_ne_nil _ hE
  have he : e ∈ entsOf d E1 E2 := (hp.mem_iff).mp (.head _)
  rcases List.mem_append.mp he with h | h
  · obtain ⟨q, hq, rfl⟩ := List.mem_map.mp h
    exact ⟨n, d, K, A, B, E1, E2, q, L, hk, hp, hq, rfl⟩
  · obtain ⟨q, hq, rfl⟩ := List.mem_map.mp h
    have h1 : (d, pageAt q1) ∈ (d + 1, pageAt q) :: ents := (hp.mem_iff).mpr (List.mem_append_left _ (List.mem_map_of_mem hq1))
    rcases List.mem_cons.mp h1 with h1 | h1
    · have := congrArg Prod.fst h1
      dsimp only at this
      omega
    · have := hmin _ h1
      rw [ent_eq, if_neg (by dsimp only; omega)] at this
      have h2 := of_decide_eq_false this
      dsimp only at h2
      omega
theorem perm_rest {d : Int} {E1 E2 : List Nat} {q : Nat} {ents : List Ent} (hq : q ∈ E1) (hp : ((d, pageAt q) :: ents).Perm (entsOf d E1 E2)) : ents.Perm (entsOf d (E1.erase q) E2) := by
  have h1 : (entsOf d E1 E2).Perm ((d, pageAt q) :: entsOf d (E1.erase q) E2) := by
    unfold entsOf
    exact ((List.perm_cons_erase hq).map _).append_right _
  exact (hp.trans h1).cons_inv
theorem Lev.lt1 {es : List (List Nat)} {R : List Nat} {n : Nat} {d : Int} {K A B E1 E2 : List Nat} (H : Lev es R n d K A B E1 E2) {q : Nat} (hq : q ∈ E1) : q < 5 := by
  rcases H.e1 q hq with h | h
  · exact H.lt q (by rcases List.mem_append.mp h with h | h <;> simp [h])
  · exact H.lt q (by simp [h])
theorem WInv.old {es : List (List Nat)} {R : List Nat} {k : List Str} {e : Ent} {ents : List Ent} (hes : ∀ k, ∀ q ∈ es.getD k [], q < 5) (H : WInv es R k (e :: ents)) (hmin : ∀ q ∈ ents, entLt q e = false) (hk : e.2 ∈ k) : WInv es R k ents := by
  obtain ⟨n, d, K, A, B, E1, E2, q, L, rfl, hp, hq, rfl⟩ := H.least hes hmin
  refine ⟨n, d, K, A, B, E1.erase q, E2, ⟨L.go, fun x hx => L.e1 x (List.mem_of_mem_erase hx), fun b hb => ?_, L.e2, L.nd, L.lt, L.srt, L.fuel, ?_⟩, rfl, perm_rest hq hp⟩
  · obtain ⟨x, hx, e⟩ := List.mem_map.mp hk
    have hx5 : x < 5 := L.lt x (by rcases List.mem_append.mp hx with h | h <;> simp [h])
    have hxq : x = q := page_inj hx5 (L.lt1 hq) e
    subst hxq
    have hbq : b ≠ x := fun e => by
      subst e
      have := List.nodup_append.mp (by rw [List.append_assoc]; exact L.nd : (K ++ A ++ B).Nodup)
      exact this.2.2 b hx b hb rfl
    exact (List.mem_erase_of_ne hbq).mpr (L.b1 b hb)
  · have := L.cnt
    have h2 := List.length_erase_of_mem hq
    omega
theorem WInv.new {es : List (List Nat)} {R : List Nat} {k : List Str} {e : Ent} {ents : List Ent} (hes : ∀ k, ∀ q ∈ es.getD k [], q < 5) (hdeg : ∀ k, (es.getD k []).length ≤ 4) {G : Str → List Str} (hG : ∀ q, q < 5 → G (pageAt q) = (es.getD q []).map pageAt)
    (H : WInv es R k (e :: ents)) (hmin : ∀ q ∈ ents, entLt q e = false) (hk : e.2 ∉ k) : WInv es R (k ++ [e.2]) (ents ++ (G e.2).map fun g => (e.1 + 1, g)) := by
  obtain ⟨n, d, K, A, B, E1, E2, q, L, rfl, hp, hq, rfl⟩ := H.least hes hmin
  have hq5 := L.lt1 hq
  have hqB : q ∈ B := by
    rcases L.e1 q hq with h | h
    · exact absurd (List.mem_map_of_mem h) hk
    · exact h
  obtain ⟨B', rfl⟩ : ∃ B', B = q :: B' := by
    cases B with
    | nil => cases hqB
    | cons b B' =>
      by_cases hb : b = q
      · exact ⟨B', by rw [hb]⟩
      · exfalso
        have hqB' : q ∈ B' := by
          rcases List.mem_cons.mp hqB with h | h
          · exact absurd h.symm hb
          · exact h
        have hlt : b < q := List.rel_of_pairwise_cons L.srt hqB'
        have hb5 : b < 5 := by omega
        have hbe := L.b1 b (.head _)
        have h1 : (d, pageAt b) ∈ (d, pageAt q) :: ents := (hp.mem_iff).mpr (List.mem_append_left _ (List.mem_map_of_mem hbe))
        rcases List.mem_cons.mp h1 with h1 | h1
        · exact hb (page_inj hb5 hq5 (congrArg Prod.snd h1))
        · have := hmin _ h1
          rw [ent_eq, if_pos rfl] at this
          dsimp only at this
          rw [page_lt b hb5 q hq5 hlt] at this
          cases this
  have e3 : A ++ [q] ++ B' = A ++ q :: B' := by simp
  refine ⟨n, d, K, A ++ [q], B', E1.erase q, E2 ++ es.getD q [], ⟨by rw [e3]; exact L.go, fun x hx => ?_, fun b hb => ?_, fun x => ?_, by rw [e3]; exact L.nd, by rw [e3]; exact L.lt, (List.pairwise_cons.mp L.srt).2, L.fuel, ?_⟩, ?_, ?_⟩
  · rcases L.e1 x (List.mem_of_mem_erase hx) with h | h
    · left
      rcases List.mem_append.mp h with h | h <;> simp [h]
    · rcases List.mem_cons.mp h with h | h
      · left; simp [h]
      · right; exact h
  · have hbq : b ≠ q := fun e => by
      subst e
      exact absurd (List.rel_of_pairwise_cons L.srt hb) (Nat.lt_irrefl _)
    exact (List.mem_erase_of_ne hbq).mpr (L.b1 b (.tail _ hb))
  · rw [List.mem_append, L.e2]
    constructor
    · rintro (⟨p, hp, hx⟩ | hx)
      · exact ⟨p, List.mem_append_left _ hp, hx⟩
      · exact ⟨q, by simp, hx⟩
    · rintro ⟨p, hp, hx⟩
      rcases List.mem_append.mp hp with hp | hp
      · exact .inl ⟨p, hp, hx⟩
      · rw [List.mem_singleton.mp hp] at hx
        exact .inr hx
  · have := L.cnt
    have h2 := List.length_erase_of_mem hq
    have h3 := hdeg q
    have h4 : 0 < E1.length := List.length_pos_of_mem hq
    simp only [List.length_append, List.length_cons, List.length_nil] at this ⊢
    omega
  · rw [← List.append_assoc, List.map_append (l₁ := K ++ A)]
    rfl
  · rw [hG q hq5]
    have h1 := perm_rest hq hp
    have h2 : (entsOf d (E1.erase q) (E2 ++ es.getD q [])) = entsOf d (E1.erase q) E2 ++ (es.getD q []).map (fun q => (d + 1, pageAt q)) := by
      simp [entsOf]
    rw [h2, List.map_map]
    exact h1.append_right _
theorem WInv.done {es : List (List Nat)} {R : List Nat} {k : List Str} (H : WInv es R k []) : k = R.map pageAt := by
  obtain ⟨n, d, K, A, B, E1, E2, L, rfl, hp⟩ := H
  have hl := hp.length_eq
  simp only [entsOf, List.length_append, List.length_map, List.length_nil] at hl
  obtain rfl : E1 = [] := List.length_eq_zero_iff.mp (by omega)
  obtain rfl : E2 = [] := List.length_eq_zero_iff.mp (by omega)
  have hB : B = [] := List.eq_nil_iff_forall_not_mem.mpr fun b hb => by have := L.b1 b hb; cases this
  subst hB
  have hgo := L.go
  rw [List.append_nil] at hgo
  congr 1
  rw [← hgo]
  cases A with
  | nil =>
    rw [List.append_nil]
    cases n <;> rfl
  | cons a A =>
    have hs := L.short
    have hf := L.fuel
    simp only [List.length_cons, List.length_nil] at hs
    obtain ⟨n', rfl⟩ : ∃ n', n = n' + 1 := ⟨n - 1, by omega⟩
    rw [keptGo, if_neg (by simp)]
    have hfr : frontF es (K ++ (a :: A)) (a :: A) = [] := List.eq_nil_iff_forall_not_mem.mpr fun x hx => by
      have := (L.e2 x).mpr (frontF_mem.mp hx).2.2
      cases this
    rw [hfr]
    cases n' <;> rfl
/-- the walk from a page meets the pages by fronts -/
def walkInv (es : List (List Nat)) (hes : ∀ k, ∀ q ∈ es.getD k [], q < 5) (hdeg : ∀ k, (es.getD k []).length ≤ 4) (G : Str → List Str) (hG : ∀ q, q < 5 → G (pageAt q) = (es.getD q []).map pageAt) (k0 : Nat) (hk0 : k0 < 5) : WalkInv G (fun p => ∃ q, q < 5 ∧ p = pageAt q) (pageAt k0) where
  Inv := WInv es (keptGo 6 es [] [k0])
  init := ⟨6, 0, [], [], [k0], [k0], [], ⟨rfl, fun q hq => .inr hq, fun b hb => hb, fun q => by simp, by simp, fun x hx => by rw [List.mem_singleton.mp hx]; exact hk0, by simp, by simp, by simp⟩, rfl, by simp [entsOf]⟩
  perm := fun {k es es'} H hp => by
    obtain ⟨n, d, K, A, B, E1, E2, L, hk, h⟩ := H
    exact ⟨n, d, K, A, B, E1, E2, L, hk, hp.symm.trans h⟩
  new := fun H hmin hk => H.new hes hdeg hG hmin hk
  old := fun H hmin hk => H.old hes hmin hk
  ok := fun {k e es'} H => by
    obtain ⟨n, d, K, A, B, E1, E2, L, hk, h, hE⟩ := H.full hes
    have he : e ∈ entsOf d E1 E2 := (h.mem_iff).mp (.head _)
    rcases List.mem_append.mp he with h | h
    · obtain ⟨q, hq, rfl⟩ := List.mem_map.mp h
      exact ⟨q, L.lt1 hq, rfl⟩
    · obtain ⟨q, hq, rfl⟩ := List.mem_map.mp h
      obtain ⟨p, _, hq⟩ := (L.e2 q).mp hq
      exact ⟨q, hes p q hq, rfl⟩
  small := fun {k es'} H => by
    obtain ⟨n, d, K, A, B, E1, E2, L, rfl, h⟩ := H
    have hs := L.short
    have hc := L.cnt
    have hl := h.length_eq
    simp only [entsOf, List.length_append, List.length_map] at hl hc ⊢
    omega
  deg := fun {p} hp => by
    obtain ⟨q, hq, rfl⟩ := hp
    rw [hG q hq, List.length_map]
    exact hdeg q

end
section
/-- the walk begins anew -/
theorem anewY2 {M : Model} {A : Around} {E : Value → Shared → Prop} {Q : Value → Shared → Prop} {s : Shared} {env : Env} (h : ∀ v s', Q v s') : wpAny M A (eval (.Constant (.int 0) 0 ⟨0, 0, 0, 0⟩) env) Q E s := by
  w_top off
  first
    | (walk1; exact h _ _)
    | exact wpAny_Constant_int (h _ _)
/-- the pages' links in texts and in lists lead to the same -/
def sameLink (k : Nat) (l : Str) : Bool :=
  let p := plain1 (pageAt k) l
  let g := goalF (wayAt k) l
  isPage p == wayTexts.any (· == g) && (!isPage p || p == pageAt (wayTexts.idxOf g))
theorem links_same : ∀ k, k < 5 → ∀ l ∈ linkTexts, sameLink k l = true := by decide +kernel
theorem name_page : ∀ k, k < 5 → nameF (pageAt k) = wayAt k := by decide +kernel
theorem way_ix : ∀ k, k < 5 → wayTexts.idxOf (wayAt k) = k := by decide +kernel
theorem page_get : ∀ k, k < 5 → pageTexts[k]? = some (pageAt k) := by decide +kernel
theorem way_get : ∀ k, k < 5 → wayTexts[k]? = some (wayAt k) := by decide +kernel
theorem row_sub (k : Nat) (hk : k < 5) : ∀ row : List Str, (∀ l ∈ row, l ∈ linkTexts) → (plainRow (pageAt k, row)).filter isPage = (edgeRow (wayAt k, row)).map pageAt := by
  intro row
  induction row with
  | nil => intro _; rfl
  | cons l row ih =>
    intro h
    have h1 := links_same k hk l (h l (.head _))
    have ih := ih fun x hx => h x (.tail _ hx)
    simp only [sameLink, Bool.and_eq_true, beq_iff_eq, Bool.or_eq_true, Bool.not_eq_true'] at h1
    obtain ⟨h1, h2⟩ := h1
    simp only [plainRow, edgeRow, List.map_cons, List.filter_cons] at ih ⊢
    rw [← h1]
    cases hb : isPage (plain1 (pageAt k) l) with
    | true =>
      rw [hb] at h2
      have h2 : plain1 (pageAt k) l = pageAt (wayTexts.idxOf (goalF (wayAt k) l)) := h2.resolve_left (by simp)
      simp only [if_true, List.map_cons]
      rw [ih, ← h2]
    | false =>
      simp only [Bool.false_eq_true, if_false]
      exact ih
theorem row_ok (ns : List Int) (k : Nat) : (rowF ns k).length ≤ 4 ∧ ∀ l ∈ rowF ns k, l ∈ linkTexts := by
  unfold rowF
  refine ⟨?_, fun l hl => ?_⟩
  · rw [List.length_map, List.length_range]; split <;> omega
  · obtain ⟨j, _, rfl⟩ := List.mem_map.mp hl
    rw [List.getD_eq_getElem?_getD, List.getElem?_eq_getElem (show digit (ns.getD k 0) j < linkTexts.length from digit_lt _ _)]
    exact List.getElem_mem _
theorem edge_lt (pr : List Str × List Str) : ∀ q ∈ edgeRow pr, q < 5 := by
  intro q hq
  obtain ⟨g, hg, rfl⟩ := List.mem_map.mp hq
  obtain ⟨y, hy, e⟩ := List.any_eq_true.mp (List.mem_filter.mp hg).2
  have : g ∈ wayTexts := eq_of_beq e ▸ hy
  exact List.idxOf_lt_length_iff.mpr this
theorem edge_len (pr : List Str × List Str) (h : pr.2.length ≤ 4) : (edgeRow pr).length ≤ 4 := by
  unfold edgeRow
  rw [List.length_map]
  exact Nat.le_trans (List.length_filter_le _ _) (by rw [List.length_map]; exact h)
/-- the rows' edges -/
def edgesOf (ns : List Int) : List (List Nat) := (wayTexts.zip ((List.range 5).map (rowF ns))).map edgeRow
theorem edges_get (ns : List Int) (k : Nat) (hk : k < 5) : (edgesOf ns).getD k [] = edgeRow (wayAt k, rowF ns k) := by
  have h1 : (wayTexts.zip ((List.range 5).map (rowF ns)))[k]? = some (wayAt k, rowF ns k) := by
    rw [List.getElem?_zip_eq_some]
    refine ⟨way_get k hk, ?_⟩
    rw [List.getElem?_map, List.getElem?_range hk]
    rfl
  rw [List.getD_eq_getElem?_getD, edgesOf, List.getElem?_map, h1]
  rfl
theorem edges_len (ns : List Int) : (edgesOf ns).length = 5 := by simp [edgesOf, wayTexts]
theorem edges_none (ns : List Int) (k : Nat) (hk : ¬k < 5) : (edgesOf ns).getD k [] = [] := by
  rw [List.getD_eq_getElem?_getD, List.getElem?_eq_none (by rw [edges_len]; omega)]
  rfl
theorem edges_lt (ns : List Int) : ∀ k, ∀ q ∈ (edgesOf ns).getD k [], q < 5 := by
  intro k q hq
  by_cases hk : k < 5
  · rw [edges_get ns k hk] at hq
    exact edge_lt _ q hq
  · rw [edges_none ns k hk] at hq
    cases hq
theorem edges_deg (ns : List Int) : ∀ k, ((edgesOf ns).getD k []).length ≤ 4 := by
  intro k
  by_cases hk : k < 5
  · rw [edges_get ns k hk]
    exact edge_len _ (row_ok ns k).1
  · rw [edges_none ns k hk]
    exact Nat.zero_le _
/-- each text's place among the pages -/
def leadG (ns : List Int) (p : Str) : List Str := (plainRow (p, rowF ns (pageTexts.idxOf p))).filter isPage
theorem page_ix : ∀ k, k < 5 → pageTexts.idxOf (pageAt k) = k := by decide +kernel
theorem leadG_eq (ns : List Int) : ∀ q, q < 5 → leadG ns (pageAt q) = ((edgesOf ns).getD q []).map pageAt := by
  intro q hq
  rw [leadG, page_ix q hq, edges_get ns q hq]
  exact row_sub q hq _ (row_ok ns q).2
def keptOf (ns : List Int) : List (List Nat) := (List.range 5).map fun k => keptGo 6 (edgesOf ns) [] [k]
theorem kept_ok (ns : List Int) : ∀ one ∈ keptOf ns, one.Nodup ∧ one.length ≤ 5 ∧ ∀ k ∈ one, k < 5 := by
  intro one h
  obtain ⟨k, hk, rfl⟩ := List.mem_map.mp h
  have hk := List.mem_range.mp hk
  have h1 := keptGo_ok (edgesOf ns) 6 [] [k] (by simp) (fun x hx => by
    have : x = k := by simpa using hx
    omega)
  exact ⟨h1.1, short_of h1.1 h1.2, h1.2⟩
/-- dedup of lists -/
theorem dd_new : ∀ (x acc : List (List Str)), (acc ++ x).Nodup → x.foldl (fun acc x => if acc.any (· == x) then acc else acc ++ [x]) acc = acc ++ x := by
  intro x
  induction x with
  | nil => intro acc _; simp
  | cons a x ih =>
    intro acc h
    have ha : acc.any (· == a) = false := by
      cases hb : acc.any (· == a) with
      | false => rfl
      | true =>
        obtain ⟨y, hy, e⟩ := List.any_eq_true.mp hb
        have := (List.nodup_append.mp h).2.2 y hy a (.head _)
        exact absurd (eq_of_beq e) this
    rw [List.foldl_cons, ha, if_neg (by decide), ih (acc ++ [a]) (by simpa using h)]
    simp
theorem dd_old : ∀ (z acc : List (List Str)), (∀ y ∈ z, y ∈ acc) → z.foldl (fun acc x => if acc.any (· == x) then acc else acc ++ [x]) acc = acc := by
  intro z
  induction z with
  | nil => intro acc _; rfl
  | cons a z ih =>
    intro acc h
    have ha : acc.any (· == a) = true := List.any_eq_true.mpr ⟨a, h a (.head _), by simp⟩
    rw [List.foldl_cons, ha, if_pos rfl]
    exact ih acc fun y hy => h y (.tail _ hy)
theorem dedup_nodup {x : List (List Str)} (h : x.Nodup) : dedupF x = x := by
  unfold dedupF
  rw [dd_new x [] (by simpa using h)]
  simp
theorem dedup_twice {x z : List (List Str)} (h : x.Nodup) (hz : ∀ y ∈ z, y ∈ x) : dedupF (x ++ z) = x := by
  have h1 := dedup_nodup h
  unfold dedupF at h1 ⊢
  rw [List.foldl_append, h1]
  exact dd_old z x hz
theorem rm_perm : ∀ (x t : List (List Str)), x.foldl rmF (some t) = some [] ↔ x.Perm t := by
  intro x
  induction x with
  | nil =>
    intro t
    rw [List.foldl_nil, Option.some.injEq, List.nil_perm]
  | cons a x ih =>
    intro t
    rw [List.foldl_cons, List.cons_perm_iff_perm_erase]
    by_cases h : a ∈ t
    · have h1 : t.any (· == a) = true := List.any_eq_true.mpr ⟨a, h, by simp⟩
      have h2 : rmF (some t) a = some (t.erase a) := by rw [rmF, Option.bind_some, if_pos h1]
      rw [h2, ih]
      exact ⟨fun k => ⟨h, k⟩, fun k => k.2⟩
    · have h1 : t.any (· == a) = false := by
        cases hb : t.any (· == a) with
        | false => rfl
        | true =>
          obtain ⟨y, hy, e⟩ := List.any_eq_true.mp hb
          exact absurd (eq_of_beq e ▸ hy) h
      have h2 : rmF (some t) a = none := by rw [rmF, Option.bind_some, h1, if_neg (by decide)]
      rw [h2, rm_stay]
      exact ⟨fun k => (nomatch k), fun k => absurd k.1 h⟩
theorem cmp_perm (xs ys : List (List Str)) : cmpF xs ys = true ↔ (dedupF xs).Perm (dedupF ys) := by
  rw [← rm_perm, cmpF]
  cases h : (dedupF xs).foldl rmF (some (dedupF ys)) with
  | none => simp
  | some t => cases t <;> simp
theorem map_nodup {a : List Nat} (h : a.Nodup) (h5 : ∀ k ∈ a, k < 5) : (a.map wayAt).Nodup := by
  induction a with
  | nil => exact List.nodup_nil
  | cons k a ih =>
    rw [List.map_cons, List.nodup_cons]
    rw [List.nodup_cons] at h
    refine ⟨fun hm => ?_, ih h.2 fun x hx => h5 x (.tail _ hx)⟩
    obtain ⟨y, hy, e⟩ := List.mem_map.mp hm
    have h1 := way_ix k (h5 k (.head _))
    have h2 := way_ix y (h5 y (.tail _ hy))
    rw [e, h1] at h2
    exact h.1 (h2 ▸ hy)
theorem map_back {a : List Nat} (h5 : ∀ k ∈ a, k < 5) : (a.map wayAt).map (fun g => wayTexts.idxOf g) = a := by
  induction a with
  | nil => rfl
  | cons k a ih =>
    rw [List.map_cons, List.map_cons, way_ix k (h5 k (.head _)), ih fun x hx => h5 x (.tail _ hx)]
theorem told_same {a b : List Nat} (ha : a.Nodup) (ha5 : ∀ k ∈ a, k < 5) (hb : b.Nodup) (hb5 : ∀ k ∈ b, k < 5) : cmpF (a.map wayAt ++ a.map wayAt) (b.map wayAt).reverse = a.isPerm b := by
  have na := map_nodup ha ha5
  have nb := map_nodup hb hb5
  rw [Bool.eq_iff_iff, cmp_perm, List.isPerm_iff, dedup_twice na (fun y hy => hy), dedup_nodup ((List.reverse_perm _).nodup_iff.mpr nb)]
  constructor
  · intro h
    have h1 := (h.trans (List.reverse_perm _)).map fun g => wayTexts.idxOf g
    rw [map_back ha5, map_back hb5] at h1
    exact h1
  · intro h
    exact (h.map wayAt).trans (List.reverse_perm _).symm

end
section
/-- the walk begins anew -/
theorem anewA1 {M : Model} {A : Around} {E : Value → Shared → Prop} {Q : Value → Shared → Prop} {s : Shared} {env : Env} (h : ∀ v s', Q v s') : wpAny M A (eval (.Constant (.int 0) 0 ⟨0, 0, 0, 0⟩) env) Q E s := by
  w_top off
  first
    | (walk1; exact h _ _)
    | exact wpAny_Constant_int (h _ _)
theorem drop_3 (w : World) : (lawB w).drop 3 = lawSt w 3 :: (lawB w).drop 4 := rfl
theorem drop_4 (w : World) : (lawB w).drop 4 = lawSt w 4 :: (lawB w).drop 5 := rfl
theorem drop_5 (w : World) : (lawB w).drop 5 = lawSt w 5 :: (lawB w).drop 6 := rfl
theorem drop_6 (w : World) : (lawB w).drop 6 = lawSt w 6 :: (lawB w).drop 7 := rfl
theorem drop_7 (w : World) : (lawB w).drop 7 = lawSt w 7 :: (lawB w).drop 8 := rfl
theorem drop_8 (w : World) : (lawB w).drop 8 = lawSt w 8 :: (lawB w).drop 9 := rfl
theorem drop_9 (w : World) : (lawB w).drop 9 = lawSt w 9 :: (lawB w).drop 10 := rfl
theorem drop_10 (w : World) : (lawB w).drop 10 = lawSt w 10 :: (lawB w).drop 11 := rfl
theorem drop_11 (w : World) : (lawB w).drop 11 = lawSt w 11 :: (lawB w).drop 12 := rfl
theorem drop_12 (w : World) : (lawB w).drop 12 = lawSt w 12 :: (lawB w).drop 13 := rfl
theorem drop_13 (w : World) : (lawB w).drop 13 = lawSt w 13 :: (lawB w).drop 14 := rfl
theorem drop_14 (w : World) : (lawB w).drop 14 = [lawSt w 14] := rfl
/-- all but the frame and one cell stays: the lists stay -/
theorem ListExt.keep {h h' : Heap} {L : Addr} {m : Str → Option Value} (hn : h.Ns L m) (K : ∀ b o, b ≠ L → h.get? b = some o → h'.get? b = some o) : ListExt h h' := fun b its n e => K b _ (list_ne_L hn e) e
theorem ListExt.keep2 {h h' : Heap} {L c : Addr} {o : Obj} {v : Option Value} {m : Str → Option Value} (hn : h.Ns L m) (hc : h.get? c = some o) (hd : o.data = .cell v) (K : ∀ b o, b ≠ L → b ≠ c → h.get? b = some o → h'.get? b = some o) : ListExt h h' := fun b its n e => K b _ (list_ne_L hn e) (list_ne_cell e hc hd) e
theorem All2.lext {h h' : Heap} {vs : List Value} {xs : List (List Str)} (H : All2 (ListIn h) vs xs) (k : ListExt h h') : All2 (ListIn h') vs xs := H.mono fun _ _ hv => hv.lext k
theorem All2.ilext {h h' : Heap} {vs : List Value} {xs : List (List Nat)} (H : All2 (IntsIn h) vs xs) (k : ListExt h h') : All2 (IntsIn h') vs xs := H.mono fun _ _ hv => hv.lext k
theorem All2.nlext {h h' : Heap} {vs : List Value} {xs : List (List (List Str))} (H : All2 (NamesIn h) vs xs) (k : ListExt h h') : All2 (NamesIn h') vs xs := H.mono fun _ _ ⟨a, ws, n, e, ha, hw⟩ => ⟨a, ws, n, e, k _ _ _ ha, hw.lext k⟩
theorem LeadsAt.lext {w : World} {h h' : Heap} {d : Addr} {G : Str → List Str} {PS : Str → Prop} (H : LeadsAt w h d G PS) (k : ListExt h h') (hd : ∀ o, h.get? d = some o → h'.get? d = some o) : LeadsAt w h' d G PS := by
  obtain ⟨kvs, h1, h2⟩ := H
  refine ⟨kvs, h1.at fun o e => hd o e, fun p hp => ?_⟩
  obtain ⟨gl, gvs, gn, e1, e2, e3⟩ := h2 p hp
  exact ⟨gl, gvs, gn, e1, k _ _ _ e2, e3⟩
theorem Cell1.keep {g h h' : Heap} {L c : Addr} {o : Obj} (N : News g L h [(c, o)]) (K : ∀ b o, b ≠ L → h.get? b = some o → h'.get? b = some o) : News g L h' [(c, o)] := fun p hp => by
  have := N p hp
  exact ⟨K _ _ this.2.1 this.1, this.2⟩
theorem Cell1.keep2 {g h h' : Heap} {L c c' : Addr} {o : Obj} (N : News g L h [(c, o)]) (hne : c ≠ c') (K : ∀ b o, b ≠ L → b ≠ c' → h.get? b = some o → h'.get? b = some o) : News g L h' [(c, o)] := fun p hp => by
  have := N p hp
  refine ⟨K _ _ this.2.1 ?_ this.1, this.2⟩
  rw [List.mem_singleton.mp hp]
  exact hne
theorem ncons {g h : Heap} {L : Addr} {c : Addr} {o : Obj} {news : List (Addr × Obj)} (N : News g L h [(c, o)]) (R : News g L h news) : News g L h ((c, o) :: news) := fun p hp => by
  rcases List.mem_cons.mp hp with rfl | hp
  · exact N _ (.head _)
  · exact R p hp
theorem nlst {g h : Heap} {L : Addr} {m : Str → Option Value} {a : Addr} {its : Array Value} {n : Nat} (F : Fr g L h m) (hf : g.get? a = none) (ha : h.get? a = some (listOf its n)) : News g L h [(a, listOf its n)] := fun p hp => by
  rw [List.mem_singleton.mp hp]
  exact ⟨ha, list_ne_L F.ns ha, hf⟩
theorem fresh_of {g h : Heap} {L : Addr} {m : Str → Option Value} {a : Addr} (F : Fr g L h m) (ha : h.get? a = none) : g.get? a = none := by
  cases q : g.get? a with
  | none => rfl
  | some o => rw [F.keep _ _ q] at ha; cases ha

end
section
/-- the walk begins anew -/
theorem anewA2 {M : Model} {A : Around} {E : Value → Shared → Prop} {Q : Value → Shared → Prop} {s : Shared} {env : Env} (h : ∀ v s', Q v s') : wpAny M A (eval (.Constant (.int 0) 0 ⟨0, 0, 0, 0⟩) env) Q E s := by
  w_top off
  first
    | (walk1; exact h _ _)
    | exact wpAny_Constant_int (h _ _)
section
variable {w : World} {mean : ExcName → Option Value} {mg mb : Str → Option Value} {E : Value → Shared → Prop} {Q : Flow → Shared → Prop} {s : Shared} {g0 : Heap} {L f : Addr} {cdv : Value} {m : Str → Option Value} {dp un : Nat} {gd : Option (List Code)}
set_option maxHeartbeats 4000000 in
theorem law_rest (W : WF w mean mg mb g0) (F : Fr g0 L s.heap m) {o1 o2 o3 o4 o5 o6 o7 o8 : Obj} {v4 v5 v6 v7 v8 : Option Value} {pa la na : Addr} {pvs lvs nvs : List Value} {ns : List Int} {kp kl kn : Nat}
    (C1 : News g0 L s.heap [(L + 1, o1)]) (C2 : News g0 L s.heap [(L + 1 + 1, o2)]) (C3 : News g0 L s.heap [(L + 1 + 1 + 1, o3)]) (C4 : News g0 L s.heap [(L + 1 + 1 + 1 + 1, o4)]) (C5 : News g0 L s.heap [(L + 1 + 1 + 1 + 1 + 1, o5)])
    (C6 : News g0 L s.heap [(L + 1 + 1 + 1 + 1 + 1 + 1, o6)]) (C7 : News g0 L s.heap [(L + 1 + 1 + 1 + 1 + 1 + 1 + 1, o7)]) (C8 : News g0 L s.heap [(L + 1 + 1 + 1 + 1 + 1 + 1 + 1 + 1, o8)])
    (d1 : o1.data = .cell (some (.ref pa))) (d2 : o2.data = .cell (some (.ref la))) (d3 : o3.data = .cell (some (.ref na))) (d4 : o4.data = .cell v4) (d5 : o5.data = .cell v5) (d6 : o6.data = .cell v6) (d7 : o7.data = .cell v7) (d8 : o8.data = .cell v8)
    (Np : News g0 L s.heap [(pa, listOf pvs.toArray kp)]) (Nl : News g0 L s.heap [(la, listOf lvs.toArray kl)]) (Nn : News g0 L s.heap [(na, listOf nvs.toArray kn)])
    (hp : StrsAre pvs pageTexts) (hl : StrsAre lvs linkTexts) (hn : IntsAre nvs ns) (hlen : ns.length = 5) (hd : dp + 50 < recursionLimit) (hu : un + 450 < cLine)
    (ret : ∀ h' tk' m', Fr g0 L h' m' → Q (.ret (.bool true)) { s with heap := h', toks := tk' }) :
    wpAny (MD w) (Around.deeper ⟨none, dp, some [], gd, un⟩ (lawEnv w L f cdv)) (execs ((lawB w).drop 3) (lawEnv w L f cdv)) Q E s := by
  have hu4 : un + 400 < cLine := by omega
  have ne4 : ∀ {a b : Nat}, a ≠ b → (L + a : Nat) ≠ L + b := fun h e => h (Nat.add_left_cancel e)
  rw [drop_3]
  generalize hst3 : lawSt w 3 = st3
  refine wpAny_execs_cons (st_rows hst3 W F (ncons C2 (ncons C3 (ncons Nl Nn))) d2 d3 hl hn hlen hd hu4 fun D1 rv rk h1 t1 F1 K1 f1 q1 H1 => ?_)
  have Nr := nlst F1 (fresh_of F f1) q1
  have C1 := Cell1.keep C1 K1
  have C4 := Cell1.keep C4 K1
  have C5 := Cell1.keep C5 K1
  have C6 := Cell1.keep C6 K1
  have C7 := Cell1.keep C7 K1
  have C8 := Cell1.keep C8 K1
  have Np := Cell1.keep Np K1
  have hrl : ((List.range 5).map (rowF ns)).length = 5 := by simp
  have hrok : ∀ row ∈ (List.range 5).map (rowF ns), row.length ≤ 4 ∧ ∀ l ∈ row, l ∈ linkTexts := fun row hr => by
    obtain ⟨k, _, rfl⟩ := List.mem_map.mp hr
    exact row_ok ns k
  dsimp only
  rw [drop_4]
  generalize hst4 : lawSt w 4 = st4
  refine wpAny_execs_cons (st_plain hst4 W F1 (ncons C1 (ncons Np Nr)) d1 (if_pos rfl) hp H1 hrl hrok hd hu4 fun D2 pv pk h2 t2 F2 K2 f2 q2 H2 => ?_)
  have x2 := ListExt.keep F1.ns K2
  have Npl := nlst F2 (fresh_of F1 f2) q2
  have C1 := Cell1.keep C1 K2
  have C4 := Cell1.keep C4 K2
  have C5 := Cell1.keep C5 K2
  have C6 := Cell1.keep C6 K2
  have C7 := Cell1.keep C7 K2
  have C8 := Cell1.keep C8 K2
  have Np := Cell1.keep Np K2
  have Nr := Cell1.keep Nr K2
  have H1 := H1.lext x2
  have hpll : ((pageTexts.zip ((List.range 5).map (rowF ns))).map plainRow).length = 5 := by simp [pageTexts]
  have hplok : ∀ row ∈ (pageTexts.zip ((List.range 5).map (rowF ns))).map plainRow, row.length ≤ 4 := fun row hr => by
    obtain ⟨pr, hpr, rfl⟩ := List.mem_map.mp hr
    rw [plainRow, List.length_map]
    exact (hrok _ (List.of_mem_zip hpr).2).1
  dsimp only
  rw [drop_5]
  generalize hst5 : lawSt w 5 = st5
  refine wpAny_execs_cons (st_leads hst5 W F2 (ncons C1 (ncons C4 (ncons Np Npl))) d1 d4 (if_pos rfl) hp H2 hpll hplok hd hu4 fun D3 h3 t3 p4 F3 N4 e4 K3 f3 HL => ?_)
  have hD3 : ∀ b : Addr, (∃ ob, h2.get? b = some ob) → D3 ≠ b := fun b hb q => by
    obtain ⟨ob, hob⟩ := hb
    rw [← q, f3] at hob
    cases hob
  have hD3L : D3 ≠ L := by
    obtain ⟨oL, _, _, h, _⟩ := F2.ns
    exact hD3 L ⟨_, h⟩
  have hD35 := hD3 _ ⟨_, (C5 _ (.head _)).1⟩
  have hD36 := hD3 _ ⟨_, (C6 _ (.head _)).1⟩
  have hLeads : LeadsAt w h3 D3 (leadG ns) (fun p => ∃ q, q < 5 ∧ p = pageAt q) := by
    obtain ⟨kvs, hd3, hl3⟩ := HL
    refine ⟨kvs, hd3, ?_⟩
    rintro p ⟨q, hq, rfl⟩
    have hpl := page_get q hq
    have hrw : ((pageTexts.zip ((List.range 5).map (rowF ns))).map plainRow)[q]? = some (plainRow (pageAt q, rowF ns q)) := by
      have h1 : (pageTexts.zip ((List.range 5).map (rowF ns)))[q]? = some (pageAt q, rowF ns q) := by
        rw [List.getElem?_zip_eq_some]
        refine ⟨hpl, ?_⟩
        rw [List.getElem?_map, List.getElem?_range hq]
        rfl
      rw [List.getElem?_map, h1]
      rfl
    obtain ⟨gl, gvs, gn, e1, e2, e3⟩ := hl3 q _ _ hpl hrw
    refine ⟨gl, gvs, gn, e1, e2, ?_⟩
    rw [leadG, page_ix q hq]
    exact e3
  have K3' : ∀ b o, b ≠ L → b ≠ L + 1 + 1 + 1 + 1 → h2.get? b = some o → h3.get? b = some o := fun b o _ hb e => K3 b o hb e
  have x3 := ListExt.keep2 F2.ns (C4 _ (.head _)).1 d4 K3'
  have C1 := Cell1.keep2 C1 (by show @Ne Nat _ _; omega) K3'
  have C5 := Cell1.keep2 C5 (by show @Ne Nat _ _; omega) K3'
  have C6 := Cell1.keep2 C6 (by show @Ne Nat _ _; omega) K3'
  have C7 := Cell1.keep2 C7 (by show @Ne Nat _ _; omega) K3'
  have C8 := Cell1.keep2 C8 (by show @Ne Nat _ _; omega) K3'
  have C4 := N4
  have Np := nlst F3 (Np _ (.head _)).2.2 (x3 _ _ _ (Np _ (.head _)).1)
  have Nr := nlst F3 (Nr _ (.head _)).2.2 (x3 _ _ _ (Nr _ (.head _)).1)
  have H1 := H1.lext x3
  dsimp only
  rw [drop_6]
  generalize hst6 : lawSt w 6 = st6
  refine wpAny_execs_cons (st_ways hst6 W F3 C5 d5 hd hu4 fun D4 wv wk h4 t4 p5 F4 N5 e5 K4 q4 f4 H4 => ?_)
  have x4 := ListExt.keep2 F3.ns (C5 _ (.head _)).1 d5 K4
  have Nw := nlst F4 f4 q4
  have C1 := Cell1.keep2 C1 (by show @Ne Nat _ _; omega) K4
  have C4 := Cell1.keep2 C4 (by show @Ne Nat _ _; omega) K4
  have C6 := Cell1.keep2 C6 (by show @Ne Nat _ _; omega) K4
  have C7 := Cell1.keep2 C7 (by show @Ne Nat _ _; omega) K4
  have C8 := Cell1.keep2 C8 (by show @Ne Nat _ _; omega) K4
  have C5 := N5
  have Np := nlst F4 (Np _ (.head _)).2.2 (x4 _ _ _ (Np _ (.head _)).1)
  have Nr := nlst F4 (Nr _ (.head _)).2.2 (x4 _ _ _ (Nr _ (.head _)).1)
  have H1 := H1.lext x4
  have hLeads := hLeads.lext x4 fun o e => K4 _ _ hD3L hD35 e
  dsimp only
  rw [drop_7]
  generalize hst7 : lawSt w 7 = st7
  refine wpAny_execs_cons (st_edges hst7 W F4 (ncons C5 (ncons C6 (ncons Nw Nr))) e5 d6 ((if_neg (by decide)).trans (if_pos rfl)) H4 H1 hrl hrok hd hu4 fun D5 ev ek h5 t5 p6 F5 N6 e6 K5 f5 q5 H5 => ?_)
  have K5' : ∀ b o, b ≠ L → b ≠ L + 1 + 1 + 1 + 1 + 1 + 1 → h4.get? b = some o → h5.get? b = some o := fun b o _ hb e => K5 b o hb e
  have x5 := ListExt.keep2 F4.ns (C6 _ (.head _)).1 d6 K5'
  have Nedg := nlst F5 (fresh_of F4 f5) q5
  have C1 := Cell1.keep2 C1 (by show @Ne Nat _ _; omega) K5'
  have C4 := Cell1.keep2 C4 (by show @Ne Nat _ _; omega) K5'
  have C5 := Cell1.keep2 C5 (by show @Ne Nat _ _; omega) K5'
  have C7 := Cell1.keep2 C7 (by show @Ne Nat _ _; omega) K5'
  have C8 := Cell1.keep2 C8 (by show @Ne Nat _ _; omega) K5'
  have C6 := N6
  have Np := nlst F5 (Np _ (.head _)).2.2 (x5 _ _ _ (Np _ (.head _)).1)
  have Nw := nlst F5 (Nw _ (.head _)).2.2 (x5 _ _ _ (Nw _ (.head _)).1)
  have H4 := H4.lext x5
  have hLeads := hLeads.lext x5 fun o e => K5 _ _ hD36 e
  have V : ∀ (i : Nat) p, pageTexts[i]? = some p → ∃ V : WalkInv (leadG ns) (fun p => ∃ q, q < 5 ∧ p = pageAt q) p, ∀ k, V.Inv k [] → k = (keptGo 6 (edgesOf ns) [] [i]).map pageAt := fun i p hi => by
    have hi5 : i < 5 := (List.getElem?_eq_some_iff.mp hi).1
    have e := page_get i hi5
    rw [hi] at e
    obtain rfl := Option.some.inj e
    exact ⟨walkInv (edgesOf ns) (edges_lt ns) (edges_deg ns) (leadG ns) (leadG_eq ns) i hi5, fun k hk => WInv.done hk⟩
  dsimp only
  rw [drop_8]
  generalize hst8 : lawSt w 8 = st8
  refine wpAny_execs_cons (st_kw hst8 W F5 (ncons C1 (ncons C4 (ncons C6 (ncons C7 (ncons Np Nedg))))) d1 e4 e6 d7 hp H5.intLists (edges_len ns) hLeads V hd hu4 fun D6 kv kk D7 lv lk h6 t6 p7 F6 N7 e7 K6 q6 H6 q7 f7 H7 => ?_)
  have x6 := ListExt.keep2 F5.ns (C7 _ (.head _)).1 d7 K6
  have Nl := nlst F6 f7 q7
  have C1 := Cell1.keep2 C1 (by show @Ne Nat _ _; omega) K6
  have C5 := Cell1.keep2 C5 (by show @Ne Nat _ _; omega) K6
  have C8 := Cell1.keep2 C8 (by show @Ne Nat _ _; omega) K6
  have C7 := N7
  have q1 := x6 _ _ _ (Np _ (.head _)).1
  have q4 := x6 _ _ _ (Nw _ (.head _)).1
  have H4 := H4.lext x6
  have H6 : All2 (IntsIn h6) kv (keptOf ns) := H6
  have hkl : (keptOf ns).length = 5 := by simp [keptOf]
  have hkok : ∀ one ∈ keptOf ns, one.length ≤ 5 ∧ ∀ k ∈ one, k < 5 := fun one h => (kept_ok ns one h).2
  have hwk : (List.range 5).map (fun i => (keptGo 6 (edgesOf ns) [] [i]).map pageAt) = (keptOf ns).map fun one => one.map pageAt := by simp [keptOf, Function.comp_def]
  rw [hwk] at H7
  have hwl : ((keptOf ns).map fun one => one.map pageAt).length = 5 := by rw [List.length_map]; exact hkl
  have hwok : ∀ row ∈ (keptOf ns).map (fun one => one.map pageAt), row.length ≤ 5 ∧ ∀ l ∈ row, l ∈ pageTexts := fun row h => by
    obtain ⟨one, ho, rfl⟩ := List.mem_map.mp h
    refine ⟨by rw [List.length_map]; exact (hkok one ho).1, fun l hl => ?_⟩
    obtain ⟨k, hk, rfl⟩ := List.mem_map.mp hl
    exact List.mem_of_getElem? (page_get k ((hkok one ho).2 k hk))
  dsimp only
  rw [drop_9]
  generalize hst9 : lawSt w 9 = st9
  refine wpAny_execs_cons (st_names hst9 W F6 (ncons C8 Nl) d8 (if_pos rfl) H7 hwl hwok hd hu4 fun D8 nv nk h7 t7 p8 F7 N8 e8 K7 f8 q8 H8 => ?_)
  have K7' : ∀ b o, b ≠ L → b ≠ L + 1 + 1 + 1 + 1 + 1 + 1 + 1 + 1 → h6.get? b = some o → h7.get? b = some o := fun b o _ hb e => K7 b o hb e
  have x7 := ListExt.keep2 F6.ns (C8 _ (.head _)).1 d8 K7'
  have C1 := Cell1.keep2 C1 (by show @Ne Nat _ _; omega) K7'
  have C5 := Cell1.keep2 C5 (by show @Ne Nat _ _; omega) K7'
  have C7 := Cell1.keep2 C7 (by show @Ne Nat _ _; omega) K7'
  have C8 := N8
  have q1 := x7 _ _ _ q1
  have q4 := x7 _ _ _ q4
  have q6 := x7 _ _ _ q6
  have q7 := x7 _ _ _ q7
  have H4 := H4.lext x7
  have H6 := H6.ilext x7
  have H7 := H7.lext x7
  have hnk : ((keptOf ns).map fun one => one.map pageAt).map (fun row => row.map nameF) = (keptOf ns).map fun one => one.map wayAt := by
    rw [List.map_map]
    refine List.map_congr_left fun one ho => ?_
    rw [Function.comp, List.map_map]
    exact List.map_congr_left fun k hk => name_page k ((hkok one ho).2 k hk)
  rw [hnk] at H8
  dsimp only
  rw [drop_10]
  generalize hst10 : lawSt w 10 = st10
  refine wpAny_execs_cons (st_check hst10 W F7 (ncons C1 (ncons C5 (ncons C7 C8))) d1 e5 e7 e8 (if_pos rfl) q1 q4 q6 q8 q7 hp H4 H6 hkl hkok H7 H8 hd hu4 fun h8 t8 F8 K8 => ?_)
  have K8' : ∀ b o, b ≠ L → h7.get? b = some o → h8.get? b = some o := fun b o _ e => K8 b o e
  have x8 := ListExt.keep F7.ns K8'
  have C7 := Cell1.keep C7 K8'
  have C8 := Cell1.keep C8 K8'
  have q6 := x8 _ _ _ q6
  have q8 := x8 _ _ _ q8
  have H6 := H6.ilext x8
  have H8 := H8.nlext x8
  dsimp only
  rw [drop_11]
  generalize hst11 : lawSt w 11 = st11
  refine wpAny_execs_cons (st_pairs hst11 W F8 hd hu4 fun D9 rv9 rk9 h9 t9 F9 K9 q9 H9 => ?_)
  have x9 := ListExt.keep F8.ns K9
  have C7 := Cell1.keep C7 K9
  have C8 := Cell1.keep C8 K9
  have q6 := x9 _ _ _ q6
  have q8 := x9 _ _ _ q8
  have H6 := H6.ilext x9
  have H8 := H8.nlext x9
  have hnl : ((keptOf ns).map fun one => one.map wayAt).length = 5 := by rw [List.length_map]; exact hkl
  have hnok : ∀ x ∈ (keptOf ns).map (fun one => one.map wayAt), x.length ≤ 5 := fun x h => by
    obtain ⟨one, ho, rfl⟩ := List.mem_map.mp h
    rw [List.length_map]
    exact (hkok one ho).1
  dsimp only
  rw [drop_12]
  generalize hst12 : lawSt w 12 = st12
  refine wpAny_execs_cons (st_told hst12 W F9 C8 e8 q8 H8 hnl hnok (if_pos rfl) q9 H9 hd hu fun Da ka ha ta Fa Ka qa => ?_)
  have xa := ListExt.keep F9.ns Ka
  have C7 := Cell1.keep C7 Ka
  have C8 := Cell1.keep C8 Ka
  have q6 := xa _ _ _ q6
  have q8 := xa _ _ _ q8
  have q9 := xa _ _ _ q9
  have H6 := H6.ilext xa
  have H8 := H8.nlext xa
  have H9 := H9.ilext xa
  dsimp only
  rw [drop_13]
  generalize hst13 : lawSt w 13 = st13
  refine wpAny_execs_cons (st_same hst13 W Fa C7 e7 q6 H6 hkl (fun x h => (hkok x h).1) ((if_neg (by decide)).trans (if_pos rfl)) q9 H9 hd hu fun Db kb hb tb Fb Kb qb => ?_)
  have xb := ListExt.keep Fa.ns Kb
  have C8 := Cell1.keep C8 Kb
  have q8 := xb _ _ _ q8
  have qa := xb _ _ _ qa
  have H8 := H8.nlext xb
  have heq : ((pairsTo 5).map fun pr => Value.bool (toldF ((keptOf ns).map fun one => one.map wayAt) pr)) = ((pairsTo 5).map fun pr => sameF (keptOf ns) pr).map Value.bool := by
    rw [List.map_map]
    refine List.map_congr_left fun pr hpr => ?_
    obtain ⟨a, b, rfl, ha, hb⟩ := pair_shape pr hpr
    have hn2 : ∀ i, i < 5 → nmAt ((keptOf ns).map fun one => one.map wayAt) i = (kpAt (keptOf ns) i).map wayAt ∧ kpAt (keptOf ns) i ∈ keptOf ns := fun i hi => by
      have h1 : i < (keptOf ns).length := by rw [hkl]; exact hi
      have h2 : (keptOf ns)[i]? = some (kpAt (keptOf ns) i) := by rw [kpAt, List.getD_eq_getElem?_getD, List.getElem?_eq_getElem h1]; rfl
      refine ⟨?_, List.mem_of_getElem? h2⟩
      rw [nmAt, List.getD_eq_getElem?_getD, List.getElem?_map, h2]
      rfl
    have ea := hn2 a ha
    have eb := hn2 b hb
    have oa := kept_ok ns _ ea.2
    have ob := kept_ok ns _ eb.2
    show Value.bool (cmpF (nmAt _ a ++ nmAt _ a) (nmAt _ b).reverse) = Value.bool ((kpAt _ a).isPerm (kpAt _ b))
    rw [ea.1, eb.1, told_same oa.1 oa.2.2 ob.1 ob.2.2]
  rw [heq] at qa
  have heq2 : ((pairsTo 5).map fun pr => Value.bool (sameF (keptOf ns) pr)) = ((pairsTo 5).map fun pr => sameF (keptOf ns) pr).map Value.bool := by rw [List.map_map]; rfl
  rw [heq2] at qb
  have hdd : ∀ x ∈ (keptOf ns).map (fun one => one.map wayAt), dedupF (x ++ x.reverse) = x := fun x h => by
    obtain ⟨one, ho, rfl⟩ := List.mem_map.mp h
    have h1 := kept_ok ns one ho
    exact dedup_twice (map_nodup h1.1 h1.2.2) fun y hy => List.mem_reverse.mp hy
  dsimp only
  rw [drop_14]
  generalize hst14 : lawSt w 14 = st14
  refine wpAny_execs_cons (st_return hst14 W Fb C8 e8 q8 H8 hnl hnok hdd ((if_neg (by decide)).trans (if_pos rfl)) (if_pos rfl) qa qb hd hu fun hc tc mc Fc => ?_)
  exact ret hc tc mc Fc
end

end
section
/-- the walk begins anew -/
theorem anewA4 {M : Model} {A : Around} {E : Value → Shared → Prop} {Q : Value → Shared → Prop} {s : Shared} {env : Env} (h : ∀ v s', Q v s') : wpAny M A (eval (.Constant (.int 0) 0 ⟨0, 0, 0, 0⟩) env) Q E s := by
  w_top off
  first
    | (walk1; exact h _ _)
    | exact wpAny_Constant_int (h _ _)

local macro_rules | `(tactic| walk_at "last subscriptTail") => `(tactic| refine Stop.out ?_)
theorem npick {g h : Heap} {L c : Addr} {o : Obj} {news : List (Addr × Obj)} (N : News g L h news) (hm : (c, o) ∈ news) : News g L h [(c, o)] := fun p hp => by
  rw [List.mem_singleton.mp hp]
  exact N _ hm
theorem lawB_split (w : World) : lawB w = lawSt w 0 :: lawSt w 1 :: lawSt w 2 :: (lawB w).drop 3 := rfl
theorem first_five (xs : List Int) : (xs.take 5 ++ [2201, 15, 40, 58, 34].drop ((xs.take 5).length : Int).toNat).length = 5 := by
  rw [Int.toNat_natCast, List.length_append, List.length_drop, List.length_take]
  simp only [List.length_cons, List.length_nil]
  omega
section
variable {w : World} {mean : ExcName → Option Value} {mg mb : Str → Option Value} {E : Value → Shared → Prop} {Q : Flow → Shared → Prop} {s : Shared} {g0 : Heap} {L f sl : Addr} {cdv : Value} {dp un : Nat} {gd : Option (List Code)}
set_option maxHeartbeats 4000000 in
theorem law_all {h0 : Heap} {tk0 : Nat} {o1 o2 o3 o4 o5 o6 o7 o8 : Obj} {v1 v2 v3 v4 v5 v6 v7 v8 : Option Value} {vs : List Value} {xs : List Int}
    (K : (hd.heap_1 w.params).In g0) (T : Top vw (looseW vw []) mean mg mb g0) (F : Fr g0 L h0 (fun y => if y = Str.ofString "script" then some (.ref sl) else none))
    (N : News g0 L h0 [(L + 1 + 1 + 1 + 1 + 1 + 1 + 1 + 1, o8), (L + 1 + 1 + 1 + 1 + 1 + 1 + 1, o7), (L + 1 + 1 + 1 + 1 + 1 + 1, o6), (L + 1 + 1 + 1 + 1 + 1, o5), (L + 1 + 1 + 1 + 1, o4), (L + 1 + 1 + 1, o3), (L + 1 + 1, o2), (L + 1, o1)])
    (d1 : o1.data = .cell v1) (d2 : o2.data = .cell v2) (d3 : o3.data = .cell v3) (d4 : o4.data = .cell v4) (d5 : o5.data = .cell v5) (d6 : o6.data = .cell v6) (d7 : o7.data = .cell v7) (d8 : o8.data = .cell v8)
    (hL : g0.IsList sl vs.toArray) (hI : IntsAre vs xs) (h63 : xs.length ≤ 63) (hd : dp + 50 < recursionLimit) (hu : un + 450 < cLine)
    (ret : ∀ h' tk' m', Fr g0 L h' m' → Q (.ret (.bool true)) { s with heap := h', toks := tk' }) :
    wpAny (MD w) (Around.deeper ⟨none, dp, some [], gd, un⟩ (lawEnv w L f cdv)) (execs (lawB w) (lawEnv w L f cdv)) Q E { s with heap := h0, toks := tk0 } := by
  have W : WF w mean mg mb g0 := ⟨K, T⟩
  rw [lawB_split]
  generalize hrest : (lawB w).drop 3 = rest
  have key : ∀ (m : Str → Option Value) (o1 o2 o3 : Obj) (pa la na : Addr) (pvs lvs nvs : List Value) (kp kl kn : Nat) (h1 : Heap) (t1 : Nat), Fr g0 L h1 m →
    News g0 L h1 [(L + 1 + 1 + 1 + 1 + 1 + 1 + 1 + 1, o8), (L + 1 + 1 + 1 + 1 + 1 + 1 + 1, o7), (L + 1 + 1 + 1 + 1 + 1 + 1, o6), (L + 1 + 1 + 1 + 1 + 1, o5), (L + 1 + 1 + 1 + 1, o4), (L + 1 + 1 + 1, o3), (L + 1 + 1, o2), (L + 1, o1), (pa, listOf pvs.toArray kp), (la, listOf lvs.toArray kl), (na, listOf nvs.toArray kn)] →
    o1.data = .cell (some (.ref pa)) → o2.data = .cell (some (.ref la)) → o3.data = .cell (some (.ref na)) → StrsAre pvs pageTexts → StrsAre lvs linkTexts → IntsAre nvs (xs.take 5 ++ [2201, 15, 40, 58, 34].drop ((xs.take 5).length : Int).toNat) →
    wpAny (MD w) (Around.deeper ⟨none, dp, some [], gd, un⟩ (lawEnv w L f cdv)) (execs rest (lawEnv w L f cdv)) Q E { s with heap := h1, toks := t1 } := by
    intro m o1 o2 o3 pa la na pvs lvs nvs kp kl kn h1 t1 F1 N1 d1 d2 d3 hp hl hn
    have c : ∀ b o, (b, o) ∈ [(L + 1 + 1 + 1 + 1 + 1 + 1 + 1 + 1, o8), (L + 1 + 1 + 1 + 1 + 1 + 1 + 1, o7), (L + 1 + 1 + 1 + 1 + 1 + 1, o6), (L + 1 + 1 + 1 + 1 + 1, o5), (L + 1 + 1 + 1 + 1, o4), (L + 1 + 1 + 1, o3), (L + 1 + 1, o2), (L + 1, o1), (pa, listOf pvs.toArray kp), (la, listOf lvs.toArray kl), (na, listOf nvs.toArray kn)] → News g0 L h1 [(b, o)] := fun b o hm p hp => by
      rw [List.mem_singleton.mp hp]
      exact N1 _ hm
    rw [← hrest]
    exact law_rest W F1 (c _ o1 (by simp)) (c _ o2 (by simp)) (c _ o3 (by simp)) (c _ o4 (by simp)) (c _ o5 (by simp)) (c _ o6 (by simp)) (c _ o7 (by simp)) (c _ o8 (by simp)) d1 d2 d3 d4 d5 d6 d7 d8 (c pa (listOf pvs.toArray kp) (by simp)) (c la (listOf lvs.toArray kl) (by simp)) (c na (listOf nvs.toArray kn) (by simp)) hp hl hn (first_five xs) hd hu ret
  clear ret hrest
  have hlen := hI.length
  obtain ⟨S, hS⟩ : ∃ S, lawS w = S := ⟨_, rfl⟩
  unfold lawEnv at key ⊢
  rw [hS] at key ⊢
  conv at hS => lhs; whnf
  subst hS
  generalize hr2 : lawSt w 2 :: rest = r2
  generalize hr1 : lawSt w 1 :: r2 = r1
  conv in (lawSt w 0) => whnf
  try k_fold
  k_steps
  dsimp only
  subst hr1
  conv in (lawSt w 1) => whnf
  k_steps
  dsimp only
  subst hr2
  conv in (lawSt w 2) => whnf
  k_steps
  unfold Stop
  rename Fr _ _ _ _ => F3
  rename News _ _ _ _ => N3
  refine kba_turn (value' := PySem.Expr.Name (PySem.Str.ofString "_") ⟨0, 0, 0, 0⟩) (fun _ => rfl) ?_
  have i5 : ∀ t : Nat, IntsAre [Value.int 2201 t, Value.int 15 (t + 1), Value.int 40 (t + 1 + 1), Value.int 58 (t + 1 + 1 + 1), Value.int 34 (t + 1 + 1 + 1 + 1)] [2201, 15, 40, 58, 34] := fun t => .cons _ _ (.cons _ _ (.cons _ _ (.cons _ _ (.cons _ _ .nil))))
  refine' kmk_slice_ints F3 N3 ⟨_, (N3 _ (.head _)).1, rfl, _, rfl⟩ (IsPart.int _ _) IsPart.none (i5 _) (kmk_from (i5 _) (Int.natCast_nonneg _)) rfl ?_ ?s ?t ?z
  case s => with_unfolding_all rfl
  case t => kmk_pure
  case z => exact Nat.le_of_ble_eq_true rfl
  intro D ws h5 F4 N4 l4 hI4 _ _
  k_lt l4
  clear F3 N3
  dsimp only
  k_steps
  dsimp only
  rename Fr _ _ _ _ => F5
  rename News _ _ _ _ => N5
  exact key _ _ _ _ _ _ _ _ _ _ _ _ _ _ _ F5 (ncons (npick N5 (.tail _ (.tail _ (.tail _ (.tail _ (.tail _ (.tail _ (.tail _ (.head _))))))))) (ncons (npick N5 (.tail _ (.tail _ (.tail _ (.tail _ (.tail _ (.tail _ (.tail _ (.tail _ (.head _)))))))))) (ncons (npick N5 (.tail _ (.tail _ (.tail _ (.tail _ (.tail _ (.tail _ (.tail _ (.tail _ (.tail _ (.head _))))))))))) (ncons (npick N5 (.tail _ (.tail _ (.tail _ (.tail _ (.tail _ (.tail _ (.tail _ (.tail _ (.tail _ (.tail _ (.head _)))))))))))) (ncons (npick N5 (.tail _ (.tail _ (.tail _ (.tail _ (.tail _ (.tail _ (.tail _ (.tail _ (.tail _ (.tail _ (.tail _ (.head _))))))))))))) (ncons (npick N5 (.tail _ (.tail _ (.tail _ (.tail _ (.tail _ (.tail _ (.tail _ (.tail _ (.tail _ (.tail _ (.tail _ (.tail _ (.head _)))))))))))))) (ncons (npick N5 (.tail _ (.tail _ (.tail _ (.tail _ (.tail _ (.tail _ (.tail _ (.tail _ (.tail _ (.tail _ (.tail _ (.tail _ (.tail _ (.head _))))))))))))))) (ncons (npick N5 (.tail _ (.tail _ (.tail _ (.tail _ (.tail _ (.tail _ (.tail _ (.tail _ (.tail _ (.tail _ (.tail _ (.tail _ (.tail _ (.tail _ (.head _)))))))))))))))) (ncons (npick N5 (.tail _ (.tail _ (.tail _ (.tail _ (.tail _ (.head _))))))) (ncons (npick N5 (.tail _ (.tail _ (.tail _ (.head _))))) (npick N5 (.head _)))))))))))) (by assumption) (by assumption) (by assumption) (.cons _ _ (.cons _ _ (.cons _ _ (.cons _ _ (.cons _ _ .nil))))) (.cons _ _ (.cons _ _ (.cons _ _ (.cons _ _ (.cons _ _ (.cons _ _ (.cons _ _ (.cons _ _ .nil)))))))) (by assumption)
end

end
/-- the walk begins anew -/
theorem anewEnd {M : Model} {A : Around} {E : Value → Shared → Prop} {Q : Value → Shared → Prop} {s : Shared} {env : Env} (h : ∀ v s', Q v s') : wpAny M A (eval (.Constant (.int 0) 0 ⟨0, 0, 0, 0⟩) env) Q E s := by
  w_top off
  first
    | (walk1; exact h _ _)
    | exact wpAny_Constant_int (h _ _)
end Mine
local macro_rules | `(tactic| k_qdec) => `(tactic| decide +kernel)
set_option maxHeartbeats 8000000 in
theorem PySem.Challenge.cw_ik0054_01_holds : PySem.Challenge.rw_ik0054_01.Holds := by
  exact Mine.hd (by w_strict (k_go0; (all_goals try k_fold); refine Mine.law_all (by assumption) (by assumption) (by assumption) (by assumption) (by assumption) (by assumption) (by assumption) (by assumption) (by assumption) (by assumption) (by assumption) (by assumption) (by assumption) (by assumption) (by omega) (by decide) (by decide) ?_; intro h' tk' m' F'; (try k_unfold); (try dsimp only); k_steps))
