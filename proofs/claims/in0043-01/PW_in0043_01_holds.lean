import PyProof.Rows.All
import Wide.All
import OpenK.AllK
import Wide.FinOn
import Lean
import PySem.Challenge.RW_in0043_01
set_option Elab.async false
-- part Hd
namespace Mine
theorem calm_Hd (M : PySem.Model) (A : PySem.Around) (e : PySem.Env) (Q : PySem.Flow → PySem.Shared → Prop) (E : PySem.Value → PySem.Shared → Prop) (s : PySem.Shared) (h : PySem.wpAny M A (PySem.execs [] e) Q E s) : PySem.wpAny M A (PySem.execs [] e) Q E s := by
  w_top off
  first | (walk1; fail) | exact h
end Mine
section
open PySem PySem.W PyProof.Rows
set_option linter.unusedVariables false
namespace Mine
set_option maxRecDepth 100000
set_option maxHeartbeats 0
theorem well : PySem.Challenge.rw_in0043_01.wellSaid = true := by
  rw [PySem.W.Fast.te9446332074065402090]
  kernel_rfl
section
local macro_rules | `(tactic| o_law) => `(tactic| (refine PySem.W.holds_law Mine.well ?_; refine (fun (h : PySem.Challenge.rw_in0043_01.row.Holds) _ => h) ?_))
local macro_rules | `(tactic| o_head $_) => `(tactic| (refine (fun (_ : True) (h : PySem.Challenge.rw_in0043_01.row.Holds) => h) ?hw ?hc))
local macro_rules | `(tactic| w_witness2) => `(tactic| exact True.intro)
open_top hd for PySem.Challenge.rw_in0043_01
end
noncomputable def qv : Program := view PySem.Challenge.pw_in0043_01 [0, 41]
noncomputable def lo : List PySem.Str := ((PySem.Challenge.pw_in0043_01.main.scope.names).map (·.1)).filter fun n => !(n == PySem.Str.ofString "law" || n == PySem.Str.ofString "_sre")
noncomputable def asK : List Addr := [2,3,6,11,12,35,36,40,41,42,44,45,47,48,52,53,55,59,61,62,64,65,66,68,69,71,72,73,75,76,78,79,80,81,82,83,84,85,86,87,88,89,90,91,92,93,94,95,96,97,98,99,100,101,102,103,104,105,106,107,108,109,110,111,112,113,115,116,118,119,120,122,123,125,126,127,129,130,132,133,134,136,137,139,140,141,144,145,146,148,149,151,152,153,156,157]
theorem asK_all (P : Params) : asK = (hd.heap_1 P).map (·.1) := by kernel_rfl
noncomputable def HK : Hook := kmHook hd.heap_1 asK asK_all [67]
noncomputable def XT (s : Shared) : Bool := xlAt qv [] s && recOk (RowW.records (OpenRow.toRowW PySem.Challenge.rw_in0043_01.row)) s
noncomputable def Left (w : World) : Prop := Option.map (fun s => (openSeen qv lo (importedModules PySem.Challenge.pw_in0043_01.main.body) XT true s, HK.obs s)) (openEnds treeTable PySem.Challenge.pw_in0043_01 w 4528) = some (openGood qv lo, HK.val w)
theorem left0 (w : World) : Left ((w.withFollow "special-get-raises" false).withFollow "comprehension-iter-twice" false) := by
  unfold Left openEnds fencedOpening topFrom
  rw [PySem.W.Fast.te10274390034422433532, PySem.W.Fast.te14289696077712309145, PySem.W.Fast.te14082659384304107361, PySem.W.Fast.te4187177175401517315, PySem.W.Fast.te14364793385576792824, PySem.W.Fast.te5923862056798008813, PySem.W.Fast.te1435165496053646825]
  kernel_rfl
theorem left1 (w : World) : Left ((w.withFollow "special-get-raises" true).withFollow "comprehension-iter-twice" false) := by
  unfold Left openEnds fencedOpening topFrom
  rw [PySem.W.Fast.te10274390034422433532, PySem.W.Fast.te14289696077712309145, PySem.W.Fast.te14082659384304107361, PySem.W.Fast.te4187177175401517315, PySem.W.Fast.te14364793385576792824, PySem.W.Fast.te5923862056798008813, PySem.W.Fast.te1435165496053646825]
  kernel_rfl
theorem left2 (w : World) : Left ((w.withFollow "special-get-raises" false).withFollow "comprehension-iter-twice" true) := by
  unfold Left openEnds fencedOpening topFrom
  rw [PySem.W.Fast.te10274390034422433532, PySem.W.Fast.te14289696077712309145, PySem.W.Fast.te14082659384304107361, PySem.W.Fast.te4187177175401517315, PySem.W.Fast.te14364793385576792824, PySem.W.Fast.te5923862056798008813, PySem.W.Fast.te1435165496053646825]
  kernel_rfl
theorem left3 (w : World) : Left ((w.withFollow "special-get-raises" true).withFollow "comprehension-iter-twice" true) := by
  unfold Left openEnds fencedOpening topFrom
  rw [PySem.W.Fast.te10274390034422433532, PySem.W.Fast.te14289696077712309145, PySem.W.Fast.te14082659384304107361, PySem.W.Fast.te4187177175401517315, PySem.W.Fast.te14364793385576792824, PySem.W.Fast.te5923862056798008813, PySem.W.Fast.te1435165496053646825]
  kernel_rfl
theorem left (w : World) : Left w := byRow2 "comprehension-iter-twice" (P := Left) (byRow2 "special-get-raises" left0 left1) (byRow2 "special-get-raises" left2 left3) w
end Mine
end
-- part Base
namespace Mine
theorem calm_Base (M : PySem.Model) (A : PySem.Around) (e : PySem.Env) (Q : PySem.Flow → PySem.Shared → Prop) (E : PySem.Value → PySem.Shared → Prop) (s : PySem.Shared) (h : PySem.wpAny M A (PySem.execs [] e) Q E s) : PySem.wpAny M A (PySem.execs [] e) Q E s := by
  w_top off
  first | (walk1; fail) | exact h
end Mine
section
open PySem PySem.W PyProof.Rows PySem.Spec PySem.Calls
set_option linter.unusedVariables false
set_option maxRecDepth 100000
namespace Mine
abbrev PR : Program := PySem.Challenge.rw_in0043_01.row.prog

abbrev Ar (dp u : Nat) (gd : Option (List Code)) (fr : Option (List Env)) : Around := { handled := none, depth := dp, frames := fr, guards := gd, units := u }

noncomputable def End (R : Value → Prop) (s : Shared) (v : Value) (s' : Shared) : Prop := R v ∧ Keeps s s'
noncomputable def PC (w : World) (p : Program) (loose : List Str) (mean : ExcName → Option Value) (mg mb : Str → Option Value) (f : Addr) (rm un : Nat) (vs : List Value) (R : Value → Prop) : Prop :=
  ∀ (dp u : Nat) (gd : Option (List Code)) (fr : Option (List Env)) (s : Shared) (E : Value → Shared → Prop), (Mine.hd.heap_1 w.params).In s.heap → Top p loose mean mg mb s.heap → dp + rm < recursionLimit → u + un < cLine → 1 ≤ s.toks →
    wpAny (model PR w) (Ar dp u gd fr) (call (.ref f) vs) (fun r s' => End R s r s') E s

section
variable {prog : Program} {w : World} {A : Around} {s : Shared} {K : Frag} {mg mb : Str → Option Value} {p : Program} {loose : List Str} {mean : ExcName → Option Value}
theorem enterP {R : Result → Shared → Prop} {name qual : Str} {params : Arguments} {body : List Stmt} {scope : Scope} {dV kV doc pm cdv ct oc : Value} {an od : Option Addr} {osl : Array (Option Value)} {f : Addr} {args : Args} {binds : List (Str × Value)}
    (X : K.In s.heap) (T : Top p loose mean mg mb s.heap)
    (ho : K.lookup f = some ⟨oc, od, .func (fnOf name qual params body scope dV kV doc pm an cdv ct), osl⟩) (hcd : codeIn K cdv qual = true) (hroom : A.depth < recursionLimit)
    (hbind : BindsTo s (fnOf name qual params body scope dV kV doc pm an cdv ct) args binds) (hloc : ∀ y ∈ binds, scope.names.lookup y.1 = some .local)
    (h : ∀ L' h₁ tk, s.toks ≤ tk → Fr s.heap L' h₁ (fun y => binds.reverse.lookup y) → News s.heap L' h₁ [] →
      wpAny (model prog w) (A.deeper (envOf qual scope L' f cdv)) (execs body (envOf qual scope L' f cdv))
        (fun fl s' => R (.ok (.ret (match fl with | .ret v => v | _ => .none))) s')
        (fun e s' => wpAny (model prog w) (A.deeper (envOf qual scope L' f cdv)) (leaving (envOf qual scope L' f cdv) e) (fun _ s'' => R (.error e) s'') (fun e' s'' => R (.error e') s'') s')
        { s with heap := h₁, toks := tk })
    (hco : scope.isCoroutine = false) (hgen : scope.isGenerator = false) (hk : scope.kind = .function)
    (hcell : ∀ x ∈ scope.names, x.2 ≠ .cell) : codeAny (model prog w) A (.call (.ref f) args) R s := by
  refine codeAny_call_def (fd := fnX name qual params body scope [] dV kV doc pm an cdv ct) (body := body) (binds := binds) hroom (X _ _ ho) rfl T.nolimit (codeRec_of X hcd) rfl hbind hcell hloc (fun h₁ hns hk₁ => ?_) hco hgen hk
  exact h s.heap.objs.size h₁ _ (Nat.le_add_right _ _) ⟨hns, hk₁, Nat.le_refl _⟩ News.nil
end
theorem pow_lit {prog : Program} {w : World} {A : Around} {E : Value → Shared → Prop} {s : Shared} {a n r : Int} {t u : Tok} {Q : Value → Shared → Prop} (e : a ^ n.toNat = r) (hn : 0 ≤ n) (hn2 : n ≤ 1000000) (ha : a.natAbs < 2 ^ 64) (h : Q (.int r s.toks) { s with toks := s.toks + 1 }) :
    wpAny (model prog w) A (binaryOp .Pow (.int a t) (.int n u)) Q E s := pow_int_small hn hn2 ha (e ▸ h)
theorem pow_l {prog : Program} {w : World} {A : Around} {E : Value → Shared → Prop} {s : Shared} {a n r : Int} {t u : Tok} {Q : Value → Shared → Prop} (e : a ^ n.toNat = r ∧ 0 ≤ n ∧ n ≤ 1000000 ∧ a.natAbs < 2 ^ 64) (h : Q (.int r s.toks) { s with toks := s.toks + 1 }) :
    wpAny (model prog w) A (binaryOp .Pow (.int a t) (.int n u)) Q E s := pow_lit e.1 e.2.1 e.2.2.1 e.2.2.2 h
theorem idx_lo (a b : Int) : -((4 : Nat) : Int) ≤ a.fmod 2 * 2 + b.fmod 2 := by
  have h1 := PySem.W.fmod_lo a (n := 2) (by decide)
  have h2 := PySem.W.fmod_lo b (n := 2) (by decide)
  omega
theorem idx_hi (a b : Int) : a.fmod 2 * 2 + b.fmod 2 < ((4 : Nat) : Int) := by
  have h1 := PySem.W.fmod_hi a (n := 2) (by decide)
  have h2 := PySem.W.fmod_hi b (n := 2) (by decide)
  omega
noncomputable def IsS (x : Str) (v : Value) : Prop := ∃ t, v = .str x t
theorem IsS.of {x y : Str} {t : Tok} (e : y = x) : IsS x (.str y t) := ⟨t, e ▸ rfl⟩
noncomputable def IsB (b : Bool) (v : Value) : Prop := v = .bool b
theorem IsB.of {b c : Bool} (e : c = b) : IsB b (.bool c) := e ▸ rfl
theorem slice_ss1 {prog : Program} {w : World} {A : Around} {E : Value → Shared → Prop} {s : Shared} {value slice : Expr} {x : Str} {t : Tok} {h₀ : Heap} {L : Addr} {m : Str → Option Value} {news : List (Addr × Obj)} {Q : Value → Shared → Prop} {i j : Int} {ui uj : Tok} (hk : 1 ≤ s.toks) (hF : Fr h₀ L s.heap m) (hN : News h₀ L s.heap news)
    (h : ∀ h' t' k, 1 ≤ k → Fr h₀ L h' m → News h₀ L h' news → Q (.str (Txt.slice x (some i) (some j)) t') { s with heap := h', toks := k })
    (hs : subscripted slice false (.str x t) (.ref s.heap.objs.size) = operate [.ref s.heap.objs.size, .str x t] (getItem (.str x t) (.ref s.heap.objs.size)) := by with_unfolding_all rfl)
    (ht : ∀ r, letTemporaryGo value (.str x t) r = pure () := by intro _; with_unfolding_all rfl) (hsz : x.length ≤ sizeLine := by size_fits) :
    wpAny (model prog w) A (subscriptTail value slice (.str x t) (.ref s.heap.objs.size)) Q E { s with heap := s.heap.push { cls := .type "slice", data := .fields #[.int i ui, .int j uj, .none] } } :=
  wpAny_with_toks (n := 1) hk (slice_strN_ss hF hN (fun h' t' k F N hk => h h' t' k hk F N) hs ht hsz)
theorem slice_ns1 {prog : Program} {w : World} {A : Around} {E : Value → Shared → Prop} {s : Shared} {value slice : Expr} {x : Str} {t : Tok} {h₀ : Heap} {L : Addr} {m : Str → Option Value} {news : List (Addr × Obj)} {Q : Value → Shared → Prop} {j : Int} {uj : Tok} (hk : 1 ≤ s.toks) (hF : Fr h₀ L s.heap m) (hN : News h₀ L s.heap news)
    (h : ∀ h' t' k, 1 ≤ k → Fr h₀ L h' m → News h₀ L h' news → Q (.str (Txt.slice x none (some j)) t') { s with heap := h', toks := k })
    (hs : subscripted slice false (.str x t) (.ref s.heap.objs.size) = operate [.ref s.heap.objs.size, .str x t] (getItem (.str x t) (.ref s.heap.objs.size)) := by with_unfolding_all rfl)
    (ht : ∀ r, letTemporaryGo value (.str x t) r = pure () := by intro _; with_unfolding_all rfl) (hsz : x.length ≤ sizeLine := by size_fits) :
    wpAny (model prog w) A (subscriptTail value slice (.str x t) (.ref s.heap.objs.size)) Q E { s with heap := s.heap.push { cls := .type "slice", data := .fields #[.none, .int j uj, .none] } } :=
  wpAny_with_toks (n := 1) hk (slice_strN_ns hF hN (fun h' t' k F N hk => h h' t' k hk F N) hs ht hsz)
theorem slice_sn1 {prog : Program} {w : World} {A : Around} {E : Value → Shared → Prop} {s : Shared} {value slice : Expr} {x : Str} {t : Tok} {h₀ : Heap} {L : Addr} {m : Str → Option Value} {news : List (Addr × Obj)} {Q : Value → Shared → Prop} {i : Int} {ui : Tok} (hk : 1 ≤ s.toks) (hF : Fr h₀ L s.heap m) (hN : News h₀ L s.heap news)
    (h : ∀ h' t' k, 1 ≤ k → Fr h₀ L h' m → News h₀ L h' news → Q (.str (Txt.slice x (some i) none) t') { s with heap := h', toks := k })
    (hs : subscripted slice false (.str x t) (.ref s.heap.objs.size) = operate [.ref s.heap.objs.size, .str x t] (getItem (.str x t) (.ref s.heap.objs.size)) := by with_unfolding_all rfl)
    (ht : ∀ r, letTemporaryGo value (.str x t) r = pure () := by intro _; with_unfolding_all rfl) (hsz : x.length ≤ sizeLine := by size_fits) :
    wpAny (model prog w) A (subscriptTail value slice (.str x t) (.ref s.heap.objs.size)) Q E { s with heap := s.heap.push { cls := .type "slice", data := .fields #[.int i ui, .none, .none] } } :=
  wpAny_with_toks (n := 1) hk (slice_strN_sn hF hN (fun h' t' k F N hk => h h' t' k hk F N) hs ht hsz)
theorem execs_tk {prog : Program} {w : World} {A : Around} {E : Value → Shared → Prop} {s : Shared} {st : Stmt} {rest : List Stmt} {env : Env} {Q : Flow → Shared → Prop} (hk : 1 ≤ s.toks)
    (h : wpAny (model prog w) A (exec st env) (fun f s' => 1 ≤ s'.toks → (match f with | .next => wpAny (model prog w) A (execs rest env) Q E s' | f => Q f s')) E s) : wpAny (model prog w) A (execs (st :: rest) env) Q E s :=
  wpAny_execs_cons (wpAny_with_toks hk (wpAny_mono h (fun _ _ x => x) (fun _ _ x _ => x)))
theorem End.mk {s : Shared} {h' : Heap} {tk : Nat} {L : Addr} {m : Str → Option Value} {R : Value → Prop} {v : Value} (F : Fr s.heap L h' m) (hR : R v) : End R s v { s with heap := h', toks := tk } := ⟨hR, h', tk, rfl, F.keep⟩
end Mine
end
-- part Use
namespace Mine
theorem calm_Use (M : PySem.Model) (A : PySem.Around) (e : PySem.Env) (Q : PySem.Flow → PySem.Shared → Prop) (E : PySem.Value → PySem.Shared → Prop) (s : PySem.Shared) (h : PySem.wpAny M A (PySem.execs [] e) Q E s) : PySem.wpAny M A (PySem.execs [] e) Q E s := by
  w_top off
  first | (walk1; fail) | exact h
end Mine
section
open PySem PySem.W PyProof.Rows PySem.Spec PySem.Calls
set_option linter.unusedVariables false
set_option maxRecDepth 100000
namespace Mine
noncomputable def PC0 (w : World) (p : Program) (loose : List Str) (mean : ExcName → Option Value) (mg mb : Str → Option Value) (f : Addr) (rm un : Nat) (vs : List Value) (R : Value → Prop) : Prop :=
  ∀ (dp u : Nat) (gd : Option (List Code)) (fr : Option (List Env)) (s : Shared) (E : Value → Shared → Prop), (Mine.hd.heap_1 w.params).In s.heap → Top p loose mean mg mb s.heap → dp + rm < recursionLimit → u + un < cLine →
    wpAny (model PR w) (Ar dp u gd fr) (call (.ref f) vs) (fun r s' => End R s r s') E s
section
variable {w : World} {p : Program} {loose : List Str} {mean : ExcName → Option Value} {mg mb : Str → Option Value} {f : Addr} {rm un : Nat} {vs : List Value} {R : Value → Prop}
variable {A : Around} {E : Value → Shared → Prop} {s : Shared} {h₀ : Heap} {L : Addr} {m : Str → Option Value} {news : List (Addr × Obj)} {Q : Value → Shared → Prop}
theorem useC0 (C : PC0 w p loose mean mg mb f rm un vs R) (X : (Mine.hd.heap_1 w.params).In h₀) (T : Top p loose mean mg mb h₀) (F : Fr h₀ L s.heap m) (N : News h₀ L s.heap news)
    (hA : A.handled = none) (hd : A.depth + rm < recursionLimit) (hu : A.units + un < cLine) (h : ∀ r h' tk, R r → Fr h₀ L h' m → News h₀ L h' news → Q r { s with heap := h', toks := tk }) :
    wpAny (model PR w) A (call (.ref f) vs) Q E s := by
  obtain ⟨hn, dp, fr, gd, u⟩ := A
  replace hA : hn = none := hA
  subst hA
  refine wpAny_mono (C dp u gd fr s E (X.keeps F.keep) (T.keeps F.keep) hd hu) (fun r s' hr => ?_) fun _ _ x => x
  obtain ⟨hR, h', tk, rfl, hk⟩ := hr
  exact h r h' tk hR (F.keeps hk) (N.grown hk)
theorem useC (C : PC w p loose mean mg mb f rm un vs R) (X : (Mine.hd.heap_1 w.params).In h₀) (T : Top p loose mean mg mb h₀) (F : Fr h₀ L s.heap m) (N : News h₀ L s.heap news)
    (hA : A.handled = none) (hd : A.depth + rm < recursionLimit) (hu : A.units + un < cLine) (ht : 1 ≤ s.toks) (h : ∀ r h' tk, 1 ≤ tk → R r → Fr h₀ L h' m → News h₀ L h' news → Q r { s with heap := h', toks := tk }) :
    wpAny (model PR w) A (call (.ref f) vs) Q E s := by
  obtain ⟨hn, dp, fr, gd, u⟩ := A
  replace hA : hn = none := hA
  subst hA
  refine wpAny_with_toks ht (wpAny_mono (C dp u gd fr s E (X.keeps F.keep) (T.keeps F.keep) hd hu ht) (fun r s' hr hk' => ?_) fun _ _ x => fun _ => x)
  obtain ⟨hR, h', tk, rfl, hk⟩ := hr
  exact h r h' tk hk' hR (F.keeps hk) (N.grown hk)
end
end Mine
end
-- part LoopE
namespace Mine
theorem calm_LoopE (M : PySem.Model) (A : PySem.Around) (e : PySem.Env) (Q : PySem.Flow → PySem.Shared → Prop) (E : PySem.Value → PySem.Shared → Prop) (s : PySem.Shared) (h : PySem.wpAny M A (PySem.execs [] e) Q E s) : PySem.wpAny M A (PySem.execs [] e) Q E s := by
  w_top off
  first | (walk1; fail) | exact h
end Mine
section
open PySem PySem.W PyProof.Rows PySem.Spec PySem.Calls PyProof.V
open AutoSeq1 (wpAny_loadPart')
set_option linter.unusedVariables false
set_option maxRecDepth 100000
namespace Mine
section
variable {prog : Program} {w : World} {A : Around} {E : Value → Shared → Prop} {s : Shared} {env : Env} {h₀ : Heap} {target : Expr} {body orelse : List Stmt} {Q : Flow → Shared → Prop}

/-- what a turn's end owes: the loop's state at the next index, or the way out -/
noncomputable def StepG (h₀ : Heap) (L : Addr) (its : List (Addr × Obj)) (Jn : (Str → Option Value) → List (Addr × Obj) → Array GenState → Prop) (s₁ : Shared) (Q : Flow → Shared → Prop) (f : Flow) (s₂ : Shared) : Prop :=
  match f with
  | .ret v => Q (.ret v) s₂
  | .brk => Q .next s₂
  | _ => ∃ h' tk m' news' g', s₂ = { s₁ with heap := h', gens := g', toks := tk } ∧ Fr h₀ L h' m' ∧ News h₀ L h' (its ++ news') ∧ (∀ p ∈ news', p.1 ∉ its.map (·.1)) ∧ Jn m' news' g'
/-- the same where the generators stay as they are -/
noncomputable def StepE (h₀ : Heap) (L : Addr) (its : List (Addr × Obj)) (Jn : (Str → Option Value) → List (Addr × Obj) → Prop) (s₁ : Shared) (Q : Flow → Shared → Prop) (f : Flow) (s₂ : Shared) : Prop :=
  match f with
  | .ret v => Q (.ret v) s₂
  | .brk => Q .next s₂
  | _ => ∃ h' tk m' news', s₂ = { s₁ with heap := h', toks := tk } ∧ Fr h₀ L h' m' ∧ News h₀ L h' (its ++ news') ∧ (∀ p ∈ news', p.1 ∉ its.map (·.1)) ∧ Jn m' news'
theorem StepE.toG {L : Addr} {its : List (Addr × Obj)} {Jn : (Str → Option Value) → List (Addr × Obj) → Prop} {s₁ s₂ : Shared} : ∀ {f : Flow}, StepE h₀ L its Jn s₁ Q f s₂ → StepG h₀ L its (fun m news g => g = s₁.gens ∧ Jn m news) s₁ Q f s₂
  | .ret _, h => h
  | .brk, h => h
  | .cont, ⟨h', tk, m', news', a, b, c, d, e⟩ => ⟨h', tk, m', news', s₁.gens, a, b, c, d, rfl, e⟩
  | .next, ⟨h', tk, m', news', a, b, c, d, e⟩ => ⟨h', tk, m', news', s₁.gens, a, b, c, d, rfl, e⟩

/-- a run of n turns: ws are the iterator's own objects, fix those of the loop's news that it reads -/
structure RunsF (prog : Program) (w : World) (A : Around) (h₀ : Heap) (L : Addr) (target : Expr) (I : Addr) (ws : List Addr) (fix : List (Addr × Obj)) (n : Nat) (P : Nat → Value → Heap → Prop) (hp : Heap) where
  fp : List Addr
  wr : List Addr
  Md : Nat → Value → Heap → Prop
  St : Nat → Heap → Prop
  W : KTurns prog w A target I fp wr n P Md St
  hws : ∀ b ∈ ws, h₀.get? b = none ∧ b ≠ L
  hwr : ∀ b ∈ wr, b ∈ ws
  hfp : ∀ b ∈ fp, b ∈ ws ∨ (∃ o, h₀.get? b = some o) ∨ ∃ o, (b, o) ∈ fix
  hlive : ∀ i h, St i h → ∀ b ∈ ws, ∃ o, h.get? b = some o
  hst : St 0 hp

theorem its_of {h : Heap} : ∀ (ws : List Addr), (∀ b ∈ ws, ∃ o, h.get? b = some o) → ∃ its : List (Addr × Obj), its.map (·.1) = ws ∧ ∀ p ∈ its, h.get? p.1 = some p.2
  | [], _ => ⟨[], rfl, fun _ hp => nomatch hp⟩
  | b :: r, hw => by
    obtain ⟨its, h1, h2⟩ := its_of r fun b' hb => hw b' (List.mem_cons_of_mem _ hb)
    obtain ⟨o, ho⟩ := hw b (List.mem_cons_self ..)
    refine ⟨(b, o) :: its, by rw [List.map_cons, h1], fun p hp => ?_⟩
    rcases List.mem_cons.mp hp with rfl | hp
    · exact ho
    · exact h2 p hp

/-- a for statement by an invariant that counts the turns; the else block runs at its end -/
theorem forCount {R : Result → Shared → Prop} {it : Value} {n : Nat} {nb : Value → Shared → Prop} (hnb : nb = notedBy (model prog w) A env fun e s' => R (.error e) s') (Inv : Nat → Shared → Prop) (h0 : Inv 0 s)
    (more : ∀ i s', i < n → Inv i s' → wpAny (model prog w) A (pyNext it) (fun r s₁ => ∃ v, r = some v ∧ wpAny (model prog w) A (letOwnedTupleGo target it v) (fun _ s₂ => wpAny (model prog w) A (assign target env v) (fun _ s₃ =>
      wpAny (model prog w) A (execs body env) (fun f s₄ => (∀ v, f = .ret v → R (.ok (.ret v)) s₄) ∧ (f = .brk → R (.ok .next) s₄) ∧ (f = .cont ∨ f = .next → Inv (i + 1) s₄)) nb s₃) nb s₂) nb s₁) nb s')
    (last : ∀ s', Inv n s' → wpAny (model prog w) A (pyNext it) (fun r s₁ => r = none ∧ wpAny (model prog w) A (execs orelse env) (fun f s₃ => R (.ok f) s₃) nb s₁) nb s') :
    codeAny (model prog w) A (.forLoop target it body orelse env) R s := by
  subst hnb
  apply codeAny_forLoop_any (fun k s' => ∃ i, i + k = n ∧ Inv i s') (n := n) (h := ⟨0, Nat.zero_add n, h0⟩)
  rintro k s' ⟨i, hik, hI⟩
  rcases Nat.eq_zero_or_pos k with rfl | hk
  · apply wpAny_mono (last s' ((show i = n by omega) ▸ hI)) _ fun _ _ e => e
    rintro _ _ ⟨rfl, h⟩
    exact h
  · apply wpAny_mono (more i s' (by omega) hI) _ fun _ _ e => e
    rintro _ _ ⟨v, rfl, h⟩
    refine wpAny_mono h (fun _ _ h => wpAny_mono h (fun _ _ h => wpAny_mono h ?_ fun _ _ e => e) fun _ _ e => e) fun _ _ e => e
    rintro (_ | _ | _ | v) s₄ ⟨hr, hb, hn⟩
    all_goals first
      | exact hr _ rfl
      | exact hb rfl
      | exact ⟨k - 1, Nat.sub_lt hk Nat.one_pos, i + 1, by omega, hn (by simp)⟩

section
variable {L I : Addr} {ws : List Addr} {fix : List (Addr × Obj)} {n i : Nat} {P : Nat → Value → Heap → Prop} {hp : Heap} {m m' : Str → Option Value} {news news' its : List (Addr × Obj)} {h h' : Heap}
/-- what the iterator alone writes leaves the frame and the loop's news as they are -/
theorem RunsF.calm (V : RunsF prog w A h₀ L target I ws fix n P hp) (F : Fr h₀ L h m) (N : News h₀ L h news) (hn : ∀ p ∈ news, p.1 ∉ ws) (k : ∀ b o, b ∉ V.wr → h.get? b = some o → h'.get? b = some o) : Fr h₀ L h' m ∧ News h₀ L h' news := by
  have off : ∀ b o, h₀.get? b = some o → b ∉ V.wr := fun b o e x => Option.some_ne_none o (e.symm.trans (V.hws b (V.hwr b x)).1)
  constructor
  · exact ⟨F.ns.at' fun o => k L o fun x => (V.hws L (V.hwr L x)).2 rfl, fun b o e => k b o (off b o e) (F.keep b o e), F.above⟩
  · intro p hp
    obtain ⟨a, b⟩ := N p hp
    exact ⟨k p.1 p.2 (fun x => hn p hp (V.hwr _ x)) a, b⟩
/-- the iterator's own objects as news -/
theorem RunsF.own (V : RunsF prog w A h₀ L target I ws fix n P hp) (st : V.St i h) : ∃ its : List (Addr × Obj), its.map (·.1) = ws ∧ News h₀ L h its := by
  obtain ⟨its, e, g⟩ := its_of ws (V.hlive i h st)
  refine ⟨its, e, fun p hp => ?_⟩
  obtain ⟨a, b⟩ := V.hws p.1 (e ▸ List.mem_map_of_mem hp)
  exact ⟨g p hp, b, a⟩
/-- the iterator's state stays where its objects, the old heap and the fixed news stay -/
theorem RunsF.stay (V : RunsF prog w A h₀ L target I ws fix n P hp) (st : V.St i h) (e : its.map (·.1) = ws) (F : Fr h₀ L h m) (N : News h₀ L h (its ++ news)) (F' : Fr h₀ L h' m') (N' : News h₀ L h' (its ++ news'))
    (f : ∀ q ∈ fix, q ∈ news) (f' : ∀ q ∈ fix, q ∈ news') : V.St i h' := by
  have same : ∀ {b : Addr} {o o' : Obj}, h.get? b = some o → h.get? b = some o' → h'.get? b = some o → h'.get? b = some o' := fun a a' x => Option.some.inj (a.symm.trans a') ▸ x
  apply V.W.frame i h h' st
  intro b hb o ho
  rcases V.hfp b hb with x | ⟨o', x⟩ | ⟨o', x⟩
  · rw [← e] at x
    obtain ⟨p, hp, rfl⟩ := List.mem_map.mp x
    exact same (N p (List.mem_append_left _ hp)).1 ho (N' p (List.mem_append_left _ hp)).1
  · exact same (F.keep b o' x) ho (F'.keep b o' x)
  · exact same (N _ (List.mem_append_right _ (f _ x))).1 ho (N' _ (List.mem_append_right _ (f' _ x))).1
end

/-- the loop's state at index i -/
noncomputable def Going (h₀ : Heap) (L : Addr) (ws : List Addr) (St : Nat → Heap → Prop) (J : Nat → (Str → Option Value) → List (Addr × Obj) → Array GenState → Prop) (s : Shared) (i : Nat) (s' : Shared) : Prop :=
  ∃ h' tk m' news' g', s' = { s with heap := h', gens := g', toks := tk } ∧ St i h' ∧ Fr h₀ L h' m' ∧ News h₀ L h' news' ∧ (∀ p ∈ news', p.1 ∉ ws) ∧ J i m' news' g'
theorem loopG {R : Result → Shared → Prop} {I : Addr} {ws : List Addr} {fix : List (Addr × Obj)} {n : Nat} {P : Nat → Value → Heap → Prop} {m : Str → Option Value} {news : List (Addr × Obj)} (V : RunsF prog w A h₀ env.locals target I ws fix n P s.heap)
    (hnw : ∀ p ∈ news, p.1 ∉ ws) (F : Fr h₀ env.locals s.heap m) (N : News h₀ env.locals s.heap news)
    (J : Nat → (Str → Option Value) → List (Addr × Obj) → Array GenState → Prop) (hfix : ∀ i m news g, J i m news g → ∀ q ∈ fix, q ∈ news) (h0 : J 0 m news s.gens) (nb : Value → Shared → Prop) (hnb : nb = notedBy (model prog w) A env fun e s' => R (.error e) s')
    (step : ∀ i v m₁ news₁ h₁ tk₁ g₁ its, i < n → P i v h₁ → J i m₁ news₁ g₁ → its.map (·.1) = ws → (∀ p ∈ news₁, p.1 ∉ ws) → Fr h₀ env.locals h₁ m₁ → News h₀ env.locals h₁ (its ++ news₁) →
      wpAny (model prog w) A (assign target env v) (fun _ s₂ => wpAny (model prog w) A (execs body env)
        (StepG h₀ env.locals its (J (i + 1)) { s with heap := h₁, gens := g₁, toks := tk₁ } fun f s' => R (.ok f) s') nb s₂) nb { s with heap := h₁, gens := g₁, toks := tk₁ })
    (helse : ∀ h' tk m' news' g', Fr h₀ env.locals h' m' → News h₀ env.locals h' news' → (∀ p ∈ news', p.1 ∉ ws) → J n m' news' g' → wpAny (model prog w) A (execs orelse env) (fun f s₃ => R (.ok f) s₃) nb { s with heap := h', gens := g', toks := tk }) :
    codeAny (model prog w) A (.forLoop target (.ref I) body orelse env) R s := by
  apply forCount (n := n) hnb (Going h₀ env.locals ws V.St J s) ⟨_, _, _, _, _, rfl, V.hst, F, N, hnw, h0⟩
  · rintro i s' hi ⟨h', tk, m', news', g', rfl, st, F', N', hn, hJ⟩
    apply V.W.item i _ _ _ hi st
    intro v h₁ tk₁ hMd k₁
    refine ⟨v, rfl, V.W.go i v _ _ _ hMd fun h₂ hP st₂ k₂ => ?_⟩
    obtain ⟨F₂, N₂⟩ := V.calm F' N' hn fun b o x y => k₂ b o x (k₁ b o x y)
    obtain ⟨its, e, O⟩ := V.own st₂
    have O₂ := O.append N₂
    have back : ∀ f s₄, StepG h₀ env.locals its (J (i + 1)) { s with heap := h₂, gens := g', toks := tk₁ } (fun f s' => R (.ok f) s') f s₄ → f = .cont ∨ f = .next → Going h₀ env.locals ws V.St J s (i + 1) s₄ := by
      rintro _ s₄ h (rfl | rfl) <;> obtain ⟨h₄, tk₄, m₄, news₄, g₄, rfl, F₄, N₄, a₄, hJ₄⟩ := h <;>
        exact ⟨h₄, tk₄, m₄, news₄, g₄, rfl, V.stay st₂ e F₂ O₂ F₄ N₄ (hfix _ _ _ _ hJ) (hfix _ _ _ _ hJ₄), F₄, N₄.right, e ▸ a₄, hJ₄⟩
    refine wpAny_mono (step i v m' news' h₂ tk₁ g' its hi hP hJ e hn F₂ O₂) (fun _ _ h => wpAny_mono h (fun f s₄ h => ⟨?_, ?_, back f s₄ h⟩) fun _ _ e => e) fun _ _ e => e
    · rintro v rfl
      exact h
    · rintro rfl
      exact h
  · rintro s' ⟨h', tk, m', news', g', rfl, st, F', N', hn, hJ⟩
    apply V.W.done _ _ _ st
    intro h₁ tk₁ k₁
    obtain ⟨F₁, N₁⟩ := V.calm F' N' hn k₁
    exact ⟨rfl, helse h₁ tk₁ m' news' g' F₁ N₁ hn hJ⟩

noncomputable def TurnsG (prog : Program) (w : World) (A : Around) (h₀ : Heap) (env : Env) (target : Expr) (body orelse : List Stmt) (Q : Flow → Shared → Prop) (E : Value → Shared → Prop) (it : Value) (s₂ : Shared) : Prop :=
  ∃ (I : Addr) (ws : List Addr) (fix : List (Addr × Obj)) (n : Nat) (P : Nat → Value → Heap → Prop) (m : Str → Option Value) (news : List (Addr × Obj)) (_ : RunsF prog w A h₀ env.locals target I ws fix n P s₂.heap) (J : Nat → (Str → Option Value) → List (Addr × Obj) → Array GenState → Prop),
    it = .ref I ∧ (∀ p ∈ news, p.1 ∉ ws) ∧ Fr h₀ env.locals s₂.heap m ∧ News h₀ env.locals s₂.heap news ∧ (∀ i m news g, J i m news g → ∀ q ∈ fix, q ∈ news) ∧ J 0 m news s₂.gens ∧
    (∀ i v m₁ news₁ h₁ tk₁ g₁ its, i < n → P i v h₁ → J i m₁ news₁ g₁ → its.map (·.1) = ws → (∀ p ∈ news₁, p.1 ∉ ws) → Fr h₀ env.locals h₁ m₁ → News h₀ env.locals h₁ (its ++ news₁) →
      wpAny (model prog w) A (assign target env v) (fun _ s₃ => wpAny (model prog w) A (execs body env) (StepG h₀ env.locals its (J (i + 1)) { s₂ with heap := h₁, gens := g₁, toks := tk₁ } Q) E s₃) E { s₂ with heap := h₁, gens := g₁, toks := tk₁ }) ∧
    ∀ h' tk m' news' g', Fr h₀ env.locals h' m' → News h₀ env.locals h' news' → (∀ p ∈ news', p.1 ∉ ws) → J n m' news' g' → wpAny (model prog w) A (execs orelse env) Q E { s₂ with heap := h', gens := g', toks := tk }
noncomputable def TurnsF (prog : Program) (w : World) (A : Around) (h₀ : Heap) (env : Env) (target : Expr) (body orelse : List Stmt) (Q : Flow → Shared → Prop) (E : Value → Shared → Prop) (it : Value) (s₂ : Shared) : Prop :=
  ∃ (I : Addr) (ws : List Addr) (fix : List (Addr × Obj)) (n : Nat) (P : Nat → Value → Heap → Prop) (m : Str → Option Value) (news : List (Addr × Obj)) (_ : RunsF prog w A h₀ env.locals target I ws fix n P s₂.heap) (J : Nat → (Str → Option Value) → List (Addr × Obj) → Prop),
    it = .ref I ∧ (∀ p ∈ news, p.1 ∉ ws) ∧ Fr h₀ env.locals s₂.heap m ∧ News h₀ env.locals s₂.heap news ∧ (∀ i m news, J i m news → ∀ q ∈ fix, q ∈ news) ∧ J 0 m news ∧
    (∀ i v m₁ news₁ h₁ tk₁ its, i < n → P i v h₁ → J i m₁ news₁ → its.map (·.1) = ws → (∀ p ∈ news₁, p.1 ∉ ws) → Fr h₀ env.locals h₁ m₁ → News h₀ env.locals h₁ (its ++ news₁) →
      wpAny (model prog w) A (assign target env v) (fun _ s₃ => wpAny (model prog w) A (execs body env) (StepE h₀ env.locals its (J (i + 1)) { s₂ with heap := h₁, toks := tk₁ } Q) E s₃) E { s₂ with heap := h₁, toks := tk₁ }) ∧
    ∀ h' tk m' news', Fr h₀ env.locals h' m' → News h₀ env.locals h' news' → (∀ p ∈ news', p.1 ∉ ws) → J n m' news' → wpAny (model prog w) A (execs orelse env) Q E { s₂ with heap := h', toks := tk }
theorem TurnsF.toG {it : Value} {s₂ : Shared} (h : TurnsF prog w A h₀ env target body orelse Q E it s₂) : TurnsG prog w A h₀ env target body orelse Q E it s₂ := by
  obtain ⟨I, ws, fix, n, P, m, news, V, J, rfl, hnw, F, N, hfix, h0, step, helse⟩ := h
  refine ⟨I, ws, fix, n, P, m, news, V, fun i m news g => g = s₂.gens ∧ J i m news, rfl, hnw, F, N, fun i m news g h => hfix i m news h.2, ⟨rfl, h0⟩, ?_, ?_⟩
  · rintro i v m₁ news₁ h₁ tk₁ _ its hi hP ⟨rfl, hJ⟩ e hn F₁ N₁
    exact wpAny_mono (step i v m₁ news₁ h₁ tk₁ its hi hP hJ e hn F₁ N₁) (fun _ _ h => wpAny_mono h (fun _ _ h => h.toG) fun _ _ e => e) fun _ _ e => e
  · rintro h' tk m' news' _ F' N' hn ⟨rfl, hJ⟩
    exact helse h' tk m' news' F' N' hn hJ

theorem For_G {iter : Expr} {pos : Pos} {m : Str → Option Value} (_F : Fr h₀ env.locals s.heap m)
    (h : wpAny (model prog w) A (eval iter env) (fun xv s₁ => wpAny (model prog w) A (pyIter xv) (fun it s₂ => TurnsG prog w A h₀ env target body orelse Q E it s₂) E s₁) E s)
    (hf : ∀ x, foldedSetIterable iter env x = pure x := by exact fun _ => rfl) (hE : PassesOwn (model prog w) A env E := by passes_own) :
    wpAny (model prog w) A (exec (.For target iter body orelse pos) env) Q E s := by
  apply wpAny_For _ hf
  apply wpAny_mono h _ fun _ _ e => e
  intro _ _ h
  apply wpAny_mono h _ fun _ _ e => e
  rintro _ s₂ ⟨I, ws, fix, n, P, m, news, V, J, rfl, hnw, F, N, hfix, h0, step, helse⟩
  apply loopG (R := fun r s' => match r with | .ok f => Q f s' | .error e => cameBackBy (model prog w) A env E e s') V hnw F N J hfix h0 _ rfl
  · intro i v m₁ news₁ h₁ tk₁ g₁ its hi hP hJ e hn F₁ N₁
    exact wpAny_mono (step i v m₁ news₁ h₁ tk₁ g₁ its hi hP hJ e hn F₁ N₁) (fun _ _ => wpAny_passesOwn hE) hE
  · exact fun h' tk m' news' g' F' N' hn hJ => wpAny_passesOwn hE (helse h' tk m' news' g' F' N' hn hJ)
theorem For_F {iter : Expr} {pos : Pos} {m : Str → Option Value} (F : Fr h₀ env.locals s.heap m)
    (h : wpAny (model prog w) A (eval iter env) (fun xv s₁ => wpAny (model prog w) A (pyIter xv) (fun it s₂ => TurnsF prog w A h₀ env target body orelse Q E it s₂) E s₁) E s)
    (hf : ∀ x, foldedSetIterable iter env x = pure x := by exact fun _ => rfl) (hE : PassesOwn (model prog w) A env E := by passes_own) :
    wpAny (model prog w) A (exec (.For target iter body orelse pos) env) Q E s :=
  For_G F (wpAny_mono h (fun _ _ h => wpAny_mono h (fun _ _ h => h.toG) fun _ _ e => e) fun _ _ e => e) hf hE

theorem news_swap {L : Addr} {h : Heap} {p : Addr × Obj} {a b : List (Addr × Obj)} (N : News h₀ L h (a ++ p :: b)) : News h₀ L h (p :: (a ++ b)) := fun q hq => N q (by
  rcases List.mem_cons.mp hq with rfl | hq
  · exact List.mem_append_right _ (List.mem_cons_self ..)
  rcases List.mem_append.mp hq with hq | hq
  · exact List.mem_append_left _ hq
  · exact List.mem_append_right _ (List.mem_cons_of_mem _ hq))
theorem news_back {L : Addr} {h : Heap} {p : Addr × Obj} {a b : List (Addr × Obj)} (N : News h₀ L h (p :: (a ++ b))) : News h₀ L h (a ++ p :: b) := fun q hq => N q (by
  rcases List.mem_append.mp hq with hq | hq
  · exact List.mem_cons_of_mem _ (List.mem_append_left _ hq)
  rcases List.mem_cons.mp hq with rfl | hq
  · exact List.mem_cons_self ..
  · exact List.mem_cons_of_mem _ (List.mem_append_right _ hq))
theorem TurnsF.acc {I : Addr} {ws : List Addr} {n : Nat} {P : Nat → Value → Heap → Prop} {m : Str → Option Value} {Pa : Addr} {o : Obj} {rest : List (Addr × Obj)} {s₂ : Shared}
    (V : RunsF prog w A h₀ env.locals target I ws [] n P s₂.heap) (F : Fr h₀ env.locals s₂.heap m) (N : News h₀ env.locals s₂.heap ((Pa, o) :: rest)) (hnw : ∀ p ∈ (Pa, o) :: rest, p.1 ∉ ws)
    (J : Addr → Nat → (Str → Option Value) → Obj → Prop) (h0 : J Pa 0 m o)
    (step : ∀ i v m₁ o₁ h₁ tk₁ its, i < n → P i v h₁ → J Pa i m₁ o₁ → its.length = ws.length → Pa ∉ its.map (·.1) → (∀ p ∈ rest, p.1 ∉ its.map (·.1)) → Fr h₀ env.locals h₁ m₁ → News h₀ env.locals h₁ ((Pa, o₁) :: (its ++ rest)) →
      wpAny (model prog w) A (assign target env v) (fun _ s₃ => wpAny (model prog w) A (execs body env) (StepE h₀ env.locals its (fun m' news' => ∃ o', news' = (Pa, o') :: rest ∧ J Pa (i + 1) m' o') { s₂ with heap := h₁, toks := tk₁ } Q) E s₃) E { s₂ with heap := h₁, toks := tk₁ })
    (helse : ∀ h' tk m' o', Fr h₀ env.locals h' m' → News h₀ env.locals h' ((Pa, o') :: rest) → J Pa n m' o' → wpAny (model prog w) A (execs orelse env) Q E { s₂ with heap := h', toks := tk }) :
    TurnsF prog w A h₀ env target body orelse Q E (.ref I) s₂ := by
  refine ⟨I, ws, [], n, P, m, (Pa, o) :: rest, V, fun i m news => ∃ o', news = (Pa, o') :: rest ∧ J Pa i m o', rfl, hnw, F, N, (fun _ _ _ _ _ h => nomatch h), ⟨o, rfl, h0⟩, ?_, ?_⟩
  · rintro i v m₁ news₁ h₁ tk₁ its hi hP ⟨o₁, rfl, hJ⟩ him hno F₁ N₁
    exact step i v m₁ o₁ h₁ tk₁ its hi hP hJ (by rw [← him, List.length_map]) (him ▸ hno _ (List.mem_cons_self ..)) (fun p hp => him ▸ hno p (List.mem_cons_of_mem _ hp)) F₁ (news_swap N₁)
  · rintro h' tk m' news' F' N' _ ⟨o', rfl, hJ⟩
    exact helse h' tk m' o' F' N' hJ
theorem StepE.go {L Pa : Addr} {o : Obj} {its rest : List (Addr × Obj)} {J : (Str → Option Value) → List (Addr × Obj) → Prop} {s₁ : Shared} {h' : Heap} {tk : Nat} {m : Str → Option Value}
    (F : Fr h₀ L h' m) (N : News h₀ L h' ((Pa, o) :: (its ++ rest))) (hn : Pa ∉ its.map (·.1)) (hr : ∀ p ∈ rest, p.1 ∉ its.map (·.1)) (h : J m ((Pa, o) :: rest)) : StepE h₀ L its J s₁ Q .next { s₁ with heap := h', toks := tk } :=
  ⟨h', tk, m, _, rfl, F, news_back N, fun p hp => by
    rcases List.mem_cons.mp hp with rfl | hp
    · exact hn
    · exact hr p hp, h⟩
theorem one_its {its : List (Addr × Obj)} (h : its.length = 1) : ∃ a oa, its = [(a, oa)] := by
  cases its with
  | nil => cases h
  | cons q r =>
    cases r with
    | nil => exact ⟨q.1, q.2, rfl⟩
    | cons q r => simp at h
theorem two_its {its : List (Addr × Obj)} (h : its.length = 2) : ∃ a oa b ob, its = [(a, oa), (b, ob)] := by
  cases its with
  | nil => cases h
  | cons q r =>
    have h2 : r.length = 1 := Nat.succ.inj h
    obtain ⟨b, ob, rfl⟩ := one_its h2
    exact ⟨q.1, q.2, b, ob, rfl⟩
theorem not_in_size {L : Addr} {h : Heap} {news : List (Addr × Obj)} (N : News h₀ L h news) {ws : List Addr} (hw : ∀ b ∈ ws, h.objs.size ≤ b) : ∀ p ∈ news, p.1 ∉ ws := fun p hp hb => absurd (Heap.lt_size (N p hp).1) (Nat.not_lt.mpr (hw _ hb))

noncomputable def tupRuns {hp : Heap} {m : Str → Option Value} {ax : Addr} {items : Array Value} (hh : A.handled = none) (F : Fr h₀ env.locals hp m) (ht : h₀.IsTuple ax items) :
    RunsF prog w A h₀ env.locals target hp.objs.size [hp.objs.size] [] items.size (fun i v _ => items[i]? = some v) (hp.push { cls := .type "tuple_iterator", data := .fields #[.ref ax, .int 0 0] }) where
  fp := [hp.objs.size, ax]
  wr := [hp.objs.size]
  Md := fun i v h => items[i]? = some v ∧ (h.IsTupleIter hp.objs.size ax (i + 1) ∧ h.IsTuple ax items)
  St := fun i h => h.IsTupleIter hp.objs.size ax i ∧ h.IsTuple ax items
  W := KTurns.ofWalks (Walks.tuple hh hp.objs.size ax (by
    obtain ⟨o, ho, _⟩ := ht
    exact Nat.ne_of_lt (Heap.lt_size (F.keep _ _ ho))) items) fun i v s Q E st q => letGo_tupleiter st.1 q
  hws := fun b hb => by
    rw [List.mem_singleton.mp hb]
    exact ⟨(ktu_new F (Nat.le_refl _)), Nat.ne_of_gt F.ns.lt⟩
  hwr := fun b hb => hb
  hfp := fun b hb => by
    rcases List.mem_cons.mp hb with rfl | hb
    · exact .inl (List.mem_cons_self ..)
    · obtain ⟨o, ho, _⟩ := ht
      rw [List.mem_singleton.mp hb]
      exact .inr (.inl ⟨o, ho⟩)
  hlive := fun i h st b hb => by
    obtain ⟨o, ho, _⟩ := st.1
    rw [List.mem_singleton.mp hb]
    exact ⟨o, ho⟩
  hst := by
    obtain ⟨o, ho, r⟩ := ht
    exact ⟨⟨_, Heap.get?_push_size _ rfl, rfl, rfl⟩, ⟨o, Heap.get?_push_of_some _ (F.keep _ _ ho), r⟩⟩

theorem tupNext {it t : Addr} {i : Nat} {items : Array Value} {Q : Value → Shared → Prop} (hit : s.heap.IsTupleIter it t i) (ht : s.heap.IsTuple t items)
    (h : wpAny (model prog w) A.in1 (match items[i]? with
      | some x => do
        setField (.ref it) 1 (rawInt (i + 1))
        ret x
      | none => do
        rule "tuple_iterator.__next__.end"
        setField (.ref it) 0 .none
        Builtin.SmallTypes.stopIteration) (fun f s' => ∃ v, f = Fin.done (.ret v) ∧ Q v s') E s) :
    wpAny (model prog w) A (Builtin.SmallTypes.nextOf (.ref it)) Q E s := by
  obtain ⟨o, ho, hc, hd⟩ := id hit
  obtain ⟨ol, hol, _, nl, hdl⟩ := ht
  have f0 : ∀ {R : Value → Shared → Prop}, R (.ref t) s → wpAny (model prog w) A.in1 (field (.ref it) 0) R E s := wpAny_field ho hd rfl
  have f1 : ∀ {R : Value → Shared → Prop}, R (.int i 0) s → wpAny (model prog w) A.in1 (field (.ref it) 1) R E s := wpAny_field ho hd rfl
  have fits : wpAny (model prog w) A.in1 (Builtin.«tuple_iterator.__next__» ⟨[.ref it], []⟩) (fun f s' => ∃ v, f = Fin.done (.ret v) ∧ Q v s') E s := by
    unfold Builtin.«tuple_iterator.__next__»
    wp_walk using f0, f1, wpAny_seqItems hol hdl
    exact h
  unfold Builtin.SmallTypes.nextOf
  apply wpAny_bind
  apply wpAny_callSpecial?_slot hit.typeIs F.slot_tuple_iterator_next
  apply wpAny_call_entry F.slot_tuple_iterator_next hit.typeIs F.entry_tuple_iterator_next _ (F.args_tuple_iterator_next_1 _)
  exact wpAny_mono fits (fun f s' ⟨v, hf, hq⟩ => hf ▸ ⟨v, rfl, wpAny_pure hq⟩) fun _ _ x => x
theorem stopT {α : Type} {Q : α → Shared → Prop} {it : Addr} {h₀ : Heap} (hh : A.handled = none) (hs : Heap.ExtBut it h₀ s.heap)
    (hE : ∀ h' e, Heap.ExtBut it h₀ h' → (∃ o, h'.get? e = some o ∧ o.cls = .type "StopIteration") → E (.ref e) { s with heap := h' }) :
    wpAny (model prog w) A (Builtin.SmallTypes.stopIteration (α := α)) Q E s := by
  unfold Builtin.SmallTypes.stopIteration newExc newTuple raiseNew
  wp_walk
  exact hE _ _ ((hs.push _).push _) ⟨_, Heap.get?_push_size _ rfl, rfl⟩
theorem drawsTuple (hh : A.handled = none) (it l : Addr) (hne : l ≠ it) (items : Array Value) :
    Draws prog w A it [it, l] items.size (fun i v => items[i]? = some v) (fun i h => h.IsTupleIter it l i ∧ h.IsTuple l items) where
  live _ _ st := by obtain ⟨o, ho, -⟩ := st.1; exact ⟨o, ho⟩
  frame _ _ _ st hk := ⟨st.1.at fun o => hk it (List.mem_cons_self ..) o, st.2.at fun o => hk l (List.mem_cons_of_mem _ (List.mem_cons_self ..)) o⟩
  item := by
    intro i s Q E hi st hQ
    obtain ⟨o, ho, hc, hd⟩ := id st.1
    apply tupNext st.1 st.2
    rw [Array.getElem?_eq_getElem hi]
    wp_walk using wpAny_setField ho hd
    · exact Nat.one_lt_two
    have hu := Heap.get?_update_self (Obj.mapFields fun x => x.setIfInBounds 1 (rawInt ((i : Int) + 1))) ho (Obj.isFreed_of_fields (Obj.data_mapFields hd _))
    have hb : Heap.SameBut it s.heap (s.heap.update it (Obj.mapFields fun x => x.setIfInBounds 1 (rawInt ((i : Int) + 1)))) := Heap.SameBut.update ..
    exact wpAny_pure ⟨_, rfl, hQ _ _ _ (Array.getElem?_eq_getElem hi) ⟨⟨_, hu, (Obj.cls_mapFields ..).trans hc, Obj.data_mapFields hd _⟩, st.2.extBut hb.extBut hne⟩ hb⟩
  done := by
    intro s Q E st hE
    obtain ⟨o, ho, hc, hd⟩ := id st.1
    apply tupNext st.1 st.2
    rw [Array.getElem?_eq_none (Nat.le_refl _)]
    wp_walk using wpAny_setField ho hd
    · exact Nat.two_pos
    exact stopT (A := A.in1) hh (Heap.SameBut.update ..).extBut hE
theorem enumMade {h : Heap} {l : Addr} {P : Addr → Heap → Prop} (k : ∀ h', IsEnum h' (h.objs.size + 1) h.objs.size 0 .none → h'.IsTupleIter h.objs.size l 0 → (∀ b o, h.get? b = some o → h'.get? b = some o) → P (h.objs.size + 1) h')
    {g : Heap} (hg : g = h.push { cls := .type "tuple_iterator", data := .fields #[.ref l, .int 0 0] }) :
    P g.objs.size (g.push { cls := .type "enumerate", data := .fields #[.none, .bool false, .ref h.objs.size, rawInt 0, .none, .none] }) := by
  have e : g.objs.size = h.objs.size + 1 := hg ▸ Heap.size_push ..
  have a := Heap.get?_push_size g (o := { cls := .type "enumerate", data := .fields #[.none, .bool false, .ref h.objs.size, rawInt 0, .none, .none] }) rfl
  rw [e] at a ⊢
  subst hg
  exact k _ a ⟨_, Heap.get?_push_of_some _ (Heap.get?_push_size _ rfl), rfl, rfl⟩ fun b o x => Heap.get?_push_of_some _ (Heap.get?_push_of_some _ x)
theorem enumNew (l : Addr) (items : Array Value) : Meets (Builtin.«enumerate.__new__» ⟨[.type "enumerate", .ref l], []⟩) (fun _ R s => s.heap.IsTuple l items ∧
    ∀ h', IsEnum h' (s.heap.objs.size + 1) s.heap.objs.size 0 .none → h'.IsTupleIter s.heap.objs.size l 0 → (∀ b o, s.heap.get? b = some o → h'.get? b = some o) → R (.ok (.ret (.ref (s.heap.objs.size + 1)))) { s with heap := h' }) :=
  .of_wp fun prog w A R s h => by
    rcases s with ⟨hp, g, d, tk, os⟩
    have hsub := sub_enumerate
    have hT := h.1
    have P := enumMade (P := fun a h' => R (.ok (.ret (.ref a))) ⟨h', g, d, tk, os⟩) h.2 rfl
    obtain ⟨⟨c, dct, dt, sl⟩, hl, rfl, n, rfl⟩ := h.1
    wp_walk using wpAny_loadPart' hl
    refine wpAny_stack_any fun st => wpAny_pure ?_
    split
    next c _ _ _ _ _ => cases c == Value.type "enumerate" <;> (wp_walk using wpAny_loadPart' hl, wpAny_pyIter_tuple hT; exact ⟨_, rfl, P⟩)
    next => wp_walk using wpAny_loadPart' hl, wpAny_pyIter_tuple hT; exact ⟨_, rfl, P⟩
theorem call_enumT {l : Addr} {items : Array Value} {Q : Value → Shared → Prop} (hT : s.heap.IsTuple l items)
    (h : ∀ h', IsEnum h' (s.heap.objs.size + 1) s.heap.objs.size 0 .none → h'.IsTupleIter s.heap.objs.size l 0 → (∀ b o, s.heap.get? b = some o → h'.get? b = some o) → Q (.ref (s.heap.objs.size + 1)) { s with heap := h' }) :
    wpAny (model prog w) A (call (.type "enumerate") [.ref l]) Q E s :=
  callType_new F.called_enumerate rfl (F.typeCall_enumerate_1 _) (F.newCall_enumerate_1 _) (F.args_object_init_2 · _) F.entry_enumerate_new (enumNew l items) ⟨hT, fun h' e i k => ⟨⟨_, e, rfl⟩, h h' e i k⟩⟩

noncomputable def enumRuns {elts : List Expr} {k : Nat} {pos : Pos} {hp : Heap} {m : Str → Option Value} {ax : Addr} {items : Array Value} {h' : Heap} (hh : A.handled = none) (F : Fr h₀ env.locals hp m) (ht : h₀.IsTuple ax items)
    (hE : IsEnum h' (hp.objs.size + 1) hp.objs.size 0 .none) (hI : h'.IsTupleIter hp.objs.size ax 0) (hk : ∀ b o, hp.get? b = some o → h'.get? b = some o) :
    RunsF prog w A h₀ env.locals (.Tuple elts k pos) (hp.objs.size + 1) [hp.objs.size + 1, hp.objs.size] [] items.size (fun i v h => ∃ T vals, v = .ref T ∧ (∃ t x, items[i]? = some x ∧ vals = #[.int (i : Int) t, x]) ∧ h.IsTuple T vals) h' :=
  have ht' : hp.IsTuple ax items := ht.at fun o e => F.keep _ _ e
  have hlt : ax < hp.objs.size := by obtain ⟨o, ho, _⟩ := ht'; exact Heap.lt_size ho
  have W := (WalksT.enumerateD (prog := prog) (w := w) (A := A) (drawsTuple (A := A.in1) (by first | exact hh | simpa using hh) hp.objs.size ax (Nat.ne_of_lt hlt) items) (hp.objs.size + 1) (Nat.succ_ne_self _) (by
    intro h
    rcases List.mem_cons.mp h with e | h
    · exact Nat.succ_ne_self _ e
    · exact Nat.ne_of_gt (Nat.lt_succ_of_lt hlt) (List.mem_singleton.mp h)) (List.mem_cons_self ..)).toU
  { fp := [hp.objs.size + 1, hp.objs.size, ax]
    wr := [hp.objs.size + 1, hp.objs.size]
    Md := _
    St := _
    W := KTurns.ofWalksU W
    hws := fun b hb => by
      rcases List.mem_cons.mp hb with rfl | hb
      · exact ⟨ktu_new F (Nat.le_succ _), Nat.ne_of_gt (Nat.lt_succ_of_lt F.ns.lt)⟩
      · rw [List.mem_singleton.mp hb]
        exact ⟨(ktu_new F (Nat.le_refl _)), Nat.ne_of_gt F.ns.lt⟩
    hwr := fun b hb => hb
    hfp := fun b hb => by
      rcases List.mem_cons.mp hb with rfl | hb
      · exact .inl (List.mem_cons_self ..)
      rcases List.mem_cons.mp hb with rfl | hb
      · exact .inl (List.mem_cons_of_mem _ (List.mem_cons_self ..))
      · obtain ⟨o, ho, _⟩ := ht
        rw [List.mem_singleton.mp hb]
        exact .inr (.inl ⟨o, ho⟩)
    hlive := fun i h st b hb => by
      obtain ⟨⟨old, he⟩, ⟨o, ho, _⟩, _⟩ := st
      rcases List.mem_cons.mp hb with rfl | hb
      · exact ⟨_, he⟩
      · rw [List.mem_singleton.mp hb]
        exact ⟨o, ho⟩
    hst := ⟨⟨.none, hE⟩, hI, ht'.at fun o e => hk _ _ e⟩ }
end
end Mine
end
-- part SreM
namespace Mine
theorem calm_SreM (M : PySem.Model) (A : PySem.Around) (e : PySem.Env) (Q : PySem.Flow → PySem.Shared → Prop) (E : PySem.Value → PySem.Shared → Prop) (s : PySem.Shared) (h : PySem.wpAny M A (PySem.execs [] e) Q E s) : PySem.wpAny M A (PySem.execs [] e) Q E s := by
  w_top off
  first | (walk1; fail) | exact h
end Mine
section
open PySem PySem.Sre
set_option linter.unusedVariables false
set_option linter.unusedSimpArgs false
namespace Mine

theorem runFor_done {m : M} (h : m.outcome.isSome = true) : ∀ n, M.runFor n m = m
  | 0 => rfl
  | n + 1 => by unfold M.runFor; rw [if_pos h]
theorem runFor_add (a b : Nat) (m : M) : M.runFor (a + b) m = M.runFor b (M.runFor a m) := by
  induction a generalizing m with
  | zero => rw [Nat.zero_add]; rfl
  | succ a ih =>
    rw [Nat.succ_add]
    show M.runFor (a + b + 1) m = _
    by_cases h : m.outcome.isSome = true
    · rw [runFor_done h, runFor_done h, runFor_done h]
    · have e1 : ∀ n, M.runFor (n + 1) m = M.runFor n m.step := fun n => by
        show (if m.outcome.isSome = true then m else M.runFor n m.step) = _
        rw [if_neg h]
      rw [e1, e1]
      exact ih m.step

/-- from m, in at most k steps, m' -/
noncomputable def Runs (k : Nat) (m m' : M) : Prop := ∃ n, n ≤ k ∧ M.runFor n m = m'
theorem Runs.trans {j k : Nat} {a b c : M} (h : Runs j a b) (h' : Runs k b c) : Runs (j + k) a c := by
  obtain ⟨n, hn, rfl⟩ := h
  obtain ⟨l, hl, rfl⟩ := h'
  exact ⟨n + l, by omega, runFor_add n l a⟩
theorem Runs.refl (a : M) : Runs 0 a a := ⟨0, Nat.le_refl _, rfl⟩
theorem Runs.le {j k : Nat} {a b : M} (h : Runs j a b) (hk : j ≤ k) : Runs k a b := let ⟨n, hn, e⟩ := h; ⟨n, Nat.le_trans hn hk, e⟩

noncomputable def code1 : Array Nat := #[14, 4, 0, 1, 1, 6, 1, 16, 46, 1]

noncomputable def at1 (t : Array Nat) (n s : Nat) (b : Bool) (σ : Seen) : M :=
  { code := code1, text := t, lim := n, start := s, lastStart := n, pc := 5, pos := s, handed := s, outermost := b, marks := #[], frames := [{ wait := .nextStart, pc := 5, pos := s, outermost := b }], weight := 1, seen := σ }
abbrev bol (t : Array Nat) (s : Nat) : Prop := s = 0 ∨ t[s - 1]?.getD 0 = 10

theorem Runs.one (m : M) : Runs 1 m m.step := by
  refine ⟨1, Nat.le_refl _, ?_⟩
  unfold M.runFor
  by_cases h : m.outcome.isSome = true
  · rw [if_pos h]; unfold M.step; rw [if_pos h]
  · rw [if_neg h]; rfl
theorem Runs.many (k : Nat) (m : M) : Runs k m (M.runFor k m) := ⟨k, Nat.le_refl _, rfl⟩
theorem acc_lit {code : Array Nat} {i c x : Nat} {σ : Seen} (hop : ops[code.getD i 0]? = some Op.LITERAL) (hc : code.getD (i + 1) 0 = c) : accepts code i x σ = .ok (x == c, σ) := by
  unfold accepts
  rw [hop, hc]
theorem wid_lit {code : Array Nat} {i : Nat} (hop : ops[code.getD i 0]? = some Op.LITERAL) : itemWidth code i = 2 := by
  unfold itemWidth
  rw [hop]
theorem step_yes {m : M} (c : Nat) (ho : m.outcome = none) (ha : m.answer = none) (hpc : m.pc < m.code.size) (hop : ops[m.word 0]? = some Op.LITERAL) (hc : m.code.getD (m.pc + 1) 0 = c) (hp : m.pos < m.lim) (ht : m.text.getD m.pos 0 = c) :
    Runs 1 m { m with seen := m.seen.add (m.word 0), pc := m.pc + 2, pos := m.pos + 1 } := by
  have e : m.step = { m with seen := m.seen.add (m.word 0), pc := m.pc + 2, pos := m.pos + 1 } := by
    unfold M.step
    rw [ho, if_neg (by decide), ha]
    dsimp only
    rw [if_pos hpc]
    unfold M.exec
    rw [hop]
    dsimp only
    rw [if_neg (Nat.not_le.mpr hp), acc_lit (i := m.pc) hop hc, ht, wid_lit (i := m.pc) hop, beq_self_eq_true]
    dsimp only
    rw [ha, ho]
  rw [← e]
  exact Runs.one m
theorem step_no {m : M} (c : Nat) (ho : m.outcome = none) (ha : m.answer = none) (hpc : m.pc < m.code.size) (hop : ops[m.word 0]? = some Op.LITERAL) (hc : m.code.getD (m.pc + 1) 0 = c) (ht : ¬ (m.pos < m.lim ∧ m.text.getD m.pos 0 = c)) :
    Runs 1 m { m with seen := m.seen.add (m.word 0), answer := some false } := by
  have e : m.step = { m with seen := m.seen.add (m.word 0), answer := some false } := by
    unfold M.step
    rw [ho, if_neg (by decide), ha]
    dsimp only
    rw [if_pos hpc]
    unfold M.exec
    rw [hop]
    dsimp only
    by_cases hp : m.pos < m.lim
    · have hb : (m.text.getD m.pos 0 == c) = false := beq_eq_false_iff_ne.mpr fun q => ht ⟨hp, q⟩
      rw [if_neg (Nat.not_le.mpr hp), acc_lit (i := m.pc) hop hc, hb]
      dsimp only [M.say]
      rw [ho]
    · rw [if_pos (Nat.not_lt.mp hp)]
      dsimp only [M.say]
      rw [ho]
  rw [← e]
  exact Runs.one m
theorem getD_q (t : Array Nat) (s : Nat) : t.getD s 0 = t[s]?.getD 0 := Array.getD_eq_getD_getElem?
theorem lit_yes {m : M} {t : Array Nat} {n q : Nat} (c : Nat) (hq : q < n) (hc' : t[q]?.getD 0 = c) (ho : m.outcome = none) (ha : m.answer = none) (hpc : Nat.ble (m.pc + 1) m.code.size = true) (hop : ops[m.word 0]? = some Op.LITERAL) (hc : m.code.getD (m.pc + 1) 0 = c) (e1 : m.text = t) (e2 : m.lim = n) (e3 : m.pos = q) :
    Runs 1 m { m with seen := m.seen.add (m.word 0), pc := m.pc + 2, pos := m.pos + 1 } :=
  step_yes c ho ha (Nat.le_of_ble_eq_true hpc) hop hc (by rw [e2, e3]; exact hq) (by rw [e1, e3, getD_q]; exact hc')
theorem lit_no {m : M} {t : Array Nat} {n q : Nat} (c : Nat) (hc' : ¬ (q < n ∧ t[q]?.getD 0 = c)) (ho : m.outcome = none) (ha : m.answer = none) (hpc : Nat.ble (m.pc + 1) m.code.size = true) (hop : ops[m.word 0]? = some Op.LITERAL) (hc : m.code.getD (m.pc + 1) 0 = c) (e1 : m.text = t) (e2 : m.lim = n) (e3 : m.pos = q) :
    Runs 1 m { m with seen := m.seen.add (m.word 0), answer := some false } :=
  step_no c ho ha (Nat.le_of_ble_eq_true hpc) hop hc (by rw [e1, e2, e3, getD_q]; exact hc')
theorem Runs.to {k : Nat} {a b c : M} (h : Runs k a b) (e : b = c) : Runs k a c := e ▸ h
theorem step_bol {m : M} (y : Bool) (ho : m.outcome = none) (ha : m.answer = none) (hpc : Nat.ble (m.pc + 1) m.code.size = true) (hop : ops[m.word 0]? = some Op.AT) (hw : m.word 1 = 1) (hy : (m.pos == 0 || m.text.getD (m.pos - 1) 0 == 10) = y) :
    Runs 1 m (if y then { m with seen := (m.seen.add (m.word 0)).add 44, pc := m.pc + 2 } else { m with seen := (m.seen.add (m.word 0)).add 44, answer := some false }) := by
  have e : m.step = if y then { m with seen := (m.seen.add (m.word 0)).add 44, pc := m.pc + 2 } else { m with seen := (m.seen.add (m.word 0)).add 44, answer := some false } := by
    have hi : ∀ m' : M, m'.pos = m.pos → m'.text = m.text → m'.isAt 1 = .ok y := fun m' e1 e2 => by
      show Except.ok (m'.pos == 0 || m'.text.getD (m'.pos - 1) 0 == 10) = _
      rw [e1, e2, hy]
    unfold M.step
    rw [if_neg (by rw [ho]; decide), ha]
    dsimp only
    rw [if_pos (show m.pc < m.code.size from Nat.le_of_ble_eq_true hpc)]
    unfold M.exec
    rw [hop]
    dsimp only
    rw [show M.word { m with seen := m.seen.add (m.word 0) } 1 = 1 from hw, hi { m with seen := m.seen.add (m.word 0) } rfl rfl]
    cases y
    · rfl
    · show M.mk _ _ _ _ _ _ _ _ _ _ _ _ _ _ _ _ _ _ m.answer _ _ = _
      rw [ha]
      rfl
  rw [← e]
  exact Runs.one m
theorem step_next {m : M} {f : Sre.Frame} {rest : List Sre.Frame} (ho : m.outcome = none) (ha : m.answer = some false) (hf : m.frames = f :: rest) (hw : f.wait = .nextStart) (hlt : f.pos < m.lastStart) :
    Runs 1 m (M.attemptFrom { m with answer := none, frames := rest, weight := m.weight - (1 + f.kept.marks.size), pc := f.pc, pos := f.pos, outermost := f.outermost, mustAdvance := false } (f.pos + 1) false) := by
  have e : m.step = M.attemptFrom { m with answer := none, frames := rest, weight := m.weight - (1 + f.kept.marks.size), pc := f.pc, pos := f.pos, outermost := f.outermost, mustAdvance := false } (f.pos + 1) false := by
    unfold M.step
    rw [if_neg (by rw [ho]; decide), ha, hf]
    dsimp only
    unfold M.resume
    rw [hw]
    dsimp only
    rw [if_neg Bool.false_ne_true, if_pos hlt]
  rw [← e]
  exact Runs.one m
theorem step_stop {m : M} {f : Sre.Frame} {rest : List Sre.Frame} (ho : m.outcome = none) (ha : m.answer = some false) (hf : m.frames = f :: rest) (hw : f.wait = .nextStart) (hlt : ¬ f.pos < m.lastStart) :
    Runs 1 m (M.say { m with answer := none, frames := rest, weight := m.weight - (1 + f.kept.marks.size), pc := f.pc, pos := f.pos, outermost := f.outermost } false) := by
  have e : m.step = M.say { m with answer := none, frames := rest, weight := m.weight - (1 + f.kept.marks.size), pc := f.pc, pos := f.pos, outermost := f.outermost } false := by
    unfold M.step
    rw [if_neg (by rw [ho]; decide), ha, hf]
    dsimp only
    unfold M.resume
    rw [hw]
    dsimp only
    rw [if_neg Bool.false_ne_true, if_neg hlt]
  rw [← e]
  exact Runs.one m
theorem bol_b {t : Array Nat} {s : Nat} : (s == 0 || t.getD (s - 1) 0 == 10) = decide (bol t s) := by
  rw [getD_q]
  by_cases h1 : s = 0 <;> by_cases h2 : t[s - 1]?.getD 0 = 10 <;> simp [bol, h1, h2]
theorem bol_of {t : Array Nat} {s : Nat} (h : bol t s) : (s == 0 || t.getD (s - 1) 0 == 10) = true := bol_b.trans (decide_eq_true h)
theorem bol_not {t : Array Nat} {s : Nat} (h : ¬ bol t s) : (s == 0 || t.getD (s - 1) 0 == 10) = false := bol_b.trans (decide_eq_false h)
theorem at1_bol_no {t : Array Nat} {n s : Nat} {b : Bool} {σ : Seen} (hs : s < n) (h : ¬ bol t s) : ∃ σ', Runs 5 (at1 t n s b σ) (at1 t n (s + 1) false σ') := by
  have r1 := step_bol (m := at1 t n s b σ) false (by kernel_rfl) (by kernel_rfl) (by kernel_rfl) (by kernel_rfl) (by kernel_rfl) (bol_not h)
  have r2 := r1.trans (step_next (f := { wait := .nextStart, pc := 5, pos := s, outermost := b }) (rest := []) (by kernel_rfl) (by kernel_rfl) (by kernel_rfl) rfl hs)
  exact ⟨(σ.add 6).add 44, (r2.le (by decide)).to (by kernel_rfl)⟩
theorem at1_dot_no {t : Array Nat} {n s : Nat} {b : Bool} {σ : Seen} (hs : s < n) (h : bol t s) (hc : ¬ t[s]?.getD 0 = 46) : ∃ σ', Runs 5 (at1 t n s b σ) (at1 t n (s + 1) false σ') := by
  have r1 := step_bol (m := at1 t n s b σ) true (by kernel_rfl) (by kernel_rfl) (by kernel_rfl) (by kernel_rfl) (by kernel_rfl) (bol_of h)
  have r2 := r1.trans (lit_no (t := t) (n := n) (q := s) 46 (fun q => hc q.2) (by kernel_rfl) (by kernel_rfl) (by kernel_rfl) (by kernel_rfl) (by kernel_rfl) (by kernel_rfl) (by kernel_rfl) (by kernel_rfl))
  have r3 := r2.trans (step_next (f := { wait := .nextStart, pc := 5, pos := s, outermost := b }) (rest := []) (by kernel_rfl) (by kernel_rfl) (by kernel_rfl) rfl hs)
  exact ⟨((σ.add 6).add 44).add 16, (r3.le (by decide)).to (by kernel_rfl)⟩
/-- the end: a match from a to b, or none -/
noncomputable def Ends (m : M) (r : Option (Nat × Nat)) : Prop := match r with
  | some (a, b) => m.outcome = some .matched ∧ m.start = a ∧ m.handed = b
  | none => m.outcome = some .failed
theorem at1_yes {t : Array Nat} {n s : Nat} {b : Bool} {σ : Seen} (hs : s < n) (h : bol t s) (hc : t[s]?.getD 0 = 46) : ∃ m', Runs 5 (at1 t n s b σ) m' ∧ Ends m' (some (s, s + 1)) := by
  have r1 := step_bol (m := at1 t n s b σ) true (by kernel_rfl) (by kernel_rfl) (by kernel_rfl) (by kernel_rfl) (by kernel_rfl) (bol_of h)
  have r2 := r1.trans (lit_yes (t := t) (n := n) (q := s) 46 hs hc (by kernel_rfl) (by kernel_rfl) (by kernel_rfl) (by kernel_rfl) (by kernel_rfl) (by kernel_rfl) (by kernel_rfl) (by kernel_rfl))
  cases b
  · exact ⟨_, (r2.trans (Runs.many 3 _)).le (by decide), by kernel_rfl, by kernel_rfl, by kernel_rfl⟩
  · exact ⟨_, (r2.trans (Runs.many 3 _)).le (by decide), by kernel_rfl, by kernel_rfl, by kernel_rfl⟩
theorem at1_end {t : Array Nat} {n : Nat} {b : Bool} {σ : Seen} : ∃ m', Runs 5 (at1 t n n b σ) m' ∧ Ends m' none := by
  by_cases h : bol t n
  · have r1 := step_bol (m := at1 t n n b σ) true (by kernel_rfl) (by kernel_rfl) (by kernel_rfl) (by kernel_rfl) (by kernel_rfl) (bol_of h)
    have r2 := r1.trans (lit_no (t := t) (n := n) (q := n) 46 (fun q => Nat.lt_irrefl _ q.1) (by kernel_rfl) (by kernel_rfl) (by kernel_rfl) (by kernel_rfl) (by kernel_rfl) (by kernel_rfl) (by kernel_rfl) (by kernel_rfl))
    have r3 := r2.trans (step_stop (f := { wait := .nextStart, pc := 5, pos := n, outermost := b }) (rest := []) (by kernel_rfl) (by kernel_rfl) (by kernel_rfl) rfl (Nat.lt_irrefl _))
    exact ⟨_, (r3.trans (Runs.many 2 _)).le (by decide), by show M.outcome _ = _; kernel_rfl⟩
  · have r1 := step_bol (m := at1 t n n b σ) false (by kernel_rfl) (by kernel_rfl) (by kernel_rfl) (by kernel_rfl) (by kernel_rfl) (bol_not h)
    have r3 := r1.trans (step_stop (f := { wait := .nextStart, pc := 5, pos := n, outermost := b }) (rest := []) (by kernel_rfl) (by kernel_rfl) (by kernel_rfl) rfl (Nat.lt_irrefl _))
    exact ⟨_, (r3.trans (Runs.many 2 _)).le (by decide), by show M.outcome _ = _; kernel_rfl⟩
end Mine
end
-- part SreN
namespace Mine
theorem calm_SreN (M : PySem.Model) (A : PySem.Around) (e : PySem.Env) (Q : PySem.Flow → PySem.Shared → Prop) (E : PySem.Value → PySem.Shared → Prop) (s : PySem.Shared) (h : PySem.wpAny M A (PySem.execs [] e) Q E s) : PySem.wpAny M A (PySem.execs [] e) Q E s := by
  w_top off
  first | (walk1; fail) | exact h
end Mine
section
open PySem PySem.Sre
set_option linter.unusedVariables false
set_option linter.unusedSimpArgs false
namespace Mine
theorem search1_eq (t : Array Nat) (s n : Nat) (h : s < n) : ∃ σ, forSearch code1 t 0 s n false = at1 t n s true σ := by
  refine ⟨({} : Seen).add 14, ?_⟩
  unfold forSearch
  have e1 : (decide (s > n) || decide (n - s < (header code1).1)) = false := by
    have : (header code1).1 = 1 := rfl
    rw [this]; simp; omega
  simp only [e1]
  rfl
theorem search1_full (t : Array Nat) (n : Nat) : ∃ m', Runs 1 (forSearch code1 t 0 n n false) m' ∧ Ends m' none := by
  refine ⟨_, ⟨1, Nat.le_refl _, rfl⟩, ?_⟩
  unfold forSearch
  have e1 : (decide (n > n) || decide (n - n < (header code1).1)) = true := by
    have : (header code1).1 = 1 := rfl
    rw [this]; simp
  simp only [e1]
  rfl
theorem walk1_some {t : Array Nat} {n a : Nat} (ha : a < n) (hb : bol t a) (hc : t[a]?.getD 0 = 46) : ∀ (d s : Nat) (b : Bool) (σ : Seen), s + d = a → (∀ i, s ≤ i → i < a → ¬ (bol t i ∧ t[i]?.getD 0 = 46)) →
    ∃ m', Runs (5 * d + 5) (at1 t n s b σ) m' ∧ Ends m' (some (a, a + 1))
  | 0, s, b, σ, e, _ => by
    have : s = a := by omega
    subst this
    exact at1_yes ha hb hc
  | d + 1, s, b, σ, e, h => by
    have hs : s < n := by omega
    have hn := h s (Nat.le_refl _) (by omega)
    have step : ∃ σ', Runs 5 (at1 t n s b σ) (at1 t n (s + 1) false σ') := by
      by_cases hb : bol t s
      · exact at1_dot_no hs hb fun q => hn ⟨hb, q⟩
      · exact at1_bol_no hs hb
    obtain ⟨σ', r⟩ := step
    obtain ⟨m', r', en⟩ := walk1_some ha hb hc d (s + 1) false σ' (by omega) fun i h1 h2 => h i (by omega) h2
    exact ⟨m', (r.trans r').le (by omega), en⟩
theorem walk1_none {t : Array Nat} {n : Nat} : ∀ (d s : Nat) (b : Bool) (σ : Seen), s + d = n → (∀ i, s ≤ i → i < n → ¬ (bol t i ∧ t[i]?.getD 0 = 46)) →
    ∃ m', Runs (5 * d + 5) (at1 t n s b σ) m' ∧ Ends m' none
  | 0, s, b, σ, e, _ => by
    have : s = n := by omega
    subst this
    exact at1_end
  | d + 1, s, b, σ, e, h => by
    have hs : s < n := by omega
    have hn := h s (Nat.le_refl _) (by omega)
    have step : ∃ σ', Runs 5 (at1 t n s b σ) (at1 t n (s + 1) false σ') := by
      by_cases hb : bol t s
      · exact at1_dot_no hs hb fun q => hn ⟨hb, q⟩
      · exact at1_bol_no hs hb
    obtain ⟨σ', r⟩ := step
    obtain ⟨m', r', en⟩ := walk1_none d (s + 1) false σ' (by omega) fun i h1 h2 => h i (by omega) h2
    exact ⟨m', (r.trans r').le (by omega), en⟩
theorem search1_some {t : Array Nat} {n s a : Nat} (hsa : s ≤ a) (ha : a < n) (hb : bol t a) (hc : t[a]?.getD 0 = 46) (h : ∀ i, s ≤ i → i < a → ¬ (bol t i ∧ t[i]?.getD 0 = 46)) :
    ∃ m', Runs (5 * n + 5) (forSearch code1 t 0 s n false) m' ∧ Ends m' (some (a, a + 1)) := by
  obtain ⟨σ, e⟩ := search1_eq t s n (by omega)
  rw [e]
  obtain ⟨m', r, en⟩ := walk1_some ha hb hc (a - s) s true σ (by omega) h
  exact ⟨m', r.le (by omega), en⟩
theorem search1_none {t : Array Nat} {n s : Nat} (hs : s ≤ n) (h : ∀ i, s ≤ i → i < n → ¬ (bol t i ∧ t[i]?.getD 0 = 46)) :
    ∃ m', Runs (5 * n + 5) (forSearch code1 t 0 s n false) m' ∧ Ends m' none := by
  by_cases e : s = n
  · subst e
    obtain ⟨m', r, en⟩ := search1_full t s
    exact ⟨m', r.le (by omega), en⟩
  · obtain ⟨σ, e⟩ := search1_eq t s n (by omega)
    rw [e]
    obtain ⟨m', r, en⟩ := walk1_none (n - s) s true σ (by omega) h
    exact ⟨m', r.le (by omega), en⟩

/-! the line ends -/
noncomputable def code2 : Array Nat := #[14, 9, 4, 1, 2, 16, 10, 16, 13, 0, 7, 7, 16, 13, 16, 10, 15, 18, 5, 16, 10, 15, 13, 11, 16, 13, 5, 5, 0, 16, 10, 1, 15, 2, 0, 1]
noncomputable def at2 (t : Array Nat) (n s : Nat) (b : Bool) (σ : Seen) : M :=
  { code := code2, text := t, lim := n, start := s, lastStart := n, pc := 10, pos := s, handed := s, outermost := b, marks := #[], frames := [{ wait := .nextStart, pc := 10, pos := s, outermost := b }], weight := 1, seen := σ }
abbrev isEnd (c : Nat) : Prop := c = 10 ∨ c = 13
theorem set2 (c : Nat) (σ : Seen) : ∃ σ', inSet code2 c code2.size 5 true σ = .ok (decide (isEnd c), σ') := by
  by_cases h1 : c = 10
  · subst h1; exact ⟨_, rfl⟩
  · by_cases h2 : c = 13
    · subst h2; exact ⟨_, rfl⟩
    · have e1 : (c == 10) = false := by simpa using h1
      have e2 : (c == 13) = false := by simpa using h2
      have e3 : decide (isEnd c) = false := decide_eq_false (fun q => q.elim h1 h2)
      refine ⟨((σ.add (code2.getD 5 0)).add (code2.getD 7 0)).add (code2.getD 9 0), ?_⟩
      show (if (c == 10) = true then _ else if (c == 13) = true then _ else _) = _
      rw [e1, e2, e3]
      rfl
theorem adm2_some {m : M} (hm : m.code = code2) {a : Nat} (ha : a < m.lim) (hc : isEnd (m.text[a]?.getD 0)) : ∀ (d f s : Nat) (σ : Seen), s + d = a → d < f → (∀ i, s ≤ i → i < a → ¬ isEnd (m.text[i]?.getD 0)) →
    ∃ σ', M.admitted m f s σ = .ok (some a, σ')
  | d, 0, s, σ, _, hf, _ => absurd hf (Nat.not_lt_zero _)
  | 0, f + 1, s, σ, e, _, _ => by
    have : s = a := by omega
    subst this
    obtain ⟨σ', e1⟩ := set2 (m.text.getD s 0) σ
    have e2 : decide (isEnd (m.text.getD s 0)) = true := by simpa [Array.getD_eq_getD_getElem?] using hc
    rw [e2] at e1
    refine ⟨σ', ?_⟩
    unfold M.admitted
    rw [if_neg (by omega), hm, e1]
  | d + 1, f + 1, s, σ, e, hf, h => by
    obtain ⟨σ', e1⟩ := set2 (m.text.getD s 0) σ
    have e2 : decide (isEnd (m.text.getD s 0)) = false := by simpa [Array.getD_eq_getD_getElem?] using h s (Nat.le_refl _) (by omega)
    rw [e2] at e1
    obtain ⟨σ'', e3⟩ := adm2_some hm ha hc d f (s + 1) σ' (by omega) (by omega) fun i h1 h2 => h i (by omega) h2
    refine ⟨σ'', ?_⟩
    unfold M.admitted
    rw [if_neg (by omega), hm, e1]
    exact e3
theorem adm2_none {m : M} (hm : m.code = code2) : ∀ (f s : Nat) (σ : Seen), (∀ i, s ≤ i → i < m.lim → ¬ isEnd (m.text[i]?.getD 0)) →
    ∃ σ', M.admitted m f s σ = .ok (none, σ')
  | 0, s, σ, _ => ⟨σ, rfl⟩
  | f + 1, s, σ, h => by
    unfold M.admitted
    by_cases hs : s ≥ m.lim
    · exact ⟨σ, by rw [if_pos hs]⟩
    · obtain ⟨σ', e1⟩ := set2 (m.text.getD s 0) σ
      have e2 : decide (isEnd (m.text.getD s 0)) = false := by simpa [Array.getD_eq_getD_getElem?] using h s (Nat.le_refl _) (by omega)
      rw [e2] at e1
      obtain ⟨σ'', e3⟩ := adm2_none hm f (s + 1) σ' fun i h1 h2 => h i (by omega) h2
      refine ⟨σ'', ?_⟩
      rw [if_neg hs, hm, e1]
      exact e3

noncomputable def f2 (t : Array Nat) (n s : Nat) : M := { code := code2, text := t, lim := n, start := s, pc := 10, pos := s, handed := s, marks := #[], lastStart := n, seen := ({} : Seen).add 14 }
theorem fresh2 (t : Array Nat) (s n : Nat) (h : s < n) : forSearch code2 t 0 s n false = (f2 t n s).attemptFrom s true := by
  unfold forSearch
  have e1 : (decide (s > n) || decide (n - s < (header code2).1)) = false := by
    have : (header code2).1 = 1 := rfl
    rw [this]; simp; omega
  simp only [e1]
  rfl
theorem from2 {m : M} (hm : m.code = code2) (s : Nat) (b : Bool) : m.attemptFrom s b = (match M.admitted m (m.lim + 1 - s) s m.seen with
    | .ok (some s, seen) => { m with mustAdvance := false, seen }.attemptAt s b
    | .ok (none, seen) => { m with seen }.say false
    | .error why => m.stick why) := by
  unfold M.attemptFrom
  have : m.hasFirstSet = true := by unfold M.hasFirstSet; rw [hm]; rfl
  rw [this]
  rfl
theorem search2_full (t : Array Nat) (n : Nat) : ∃ m', Runs 1 (forSearch code2 t 0 n n false) m' ∧ Ends m' none := by
  refine ⟨_, ⟨1, Nat.le_refl _, rfl⟩, ?_⟩
  unfold forSearch
  have e1 : (decide (n > n) || decide (n - n < (header code2).1)) = true := by
    have : (header code2).1 = 1 := rfl
    rw [this]; simp
  simp only [e1]
  rfl
theorem search2_none {t : Array Nat} {n s : Nat} (hs : s ≤ n) (h : ∀ i, s ≤ i → i < n → ¬ isEnd (t[i]?.getD 0)) :
    ∃ m', Runs 1 (forSearch code2 t 0 s n false) m' ∧ Ends m' none := by
  by_cases e : s = n
  · subst e
    exact search2_full t s
  · obtain ⟨σ', e2⟩ := adm2_none (m := f2 t n s) rfl ((f2 t n s).lim + 1 - s) s (f2 t n s).seen h
    rw [fresh2 t s n (by omega), from2 rfl, e2]
    exact ⟨_, ⟨1, Nat.le_refl _, rfl⟩, rfl⟩
theorem at2_lf {t : Array Nat} {n s : Nat} {σ : Seen} (hs : s < n) (h : t[s]?.getD 0 = 10) : ∃ m', Runs 40 (at2 t n s true σ) m' ∧ Ends m' (some (s, s + 1)) := by
  have r1 := Runs.many 1 (at2 t n s true σ)
  have r2 := r1.trans (lit_no (t := t) (n := n) (q := s) 13 (fun q => by rw [h] at q; cases q.2) (by kernel_rfl) (by kernel_rfl) (by kernel_rfl) (by kernel_rfl) (by kernel_rfl) (by kernel_rfl) (by kernel_rfl) (by kernel_rfl))
  have r3 := r2.trans (Runs.many 1 _)
  have r4 := r3.trans (lit_yes (t := t) (n := n) (q := s) 10 hs h (by kernel_rfl) (by kernel_rfl) (by kernel_rfl) (by kernel_rfl) (by kernel_rfl) (by kernel_rfl) (by kernel_rfl) (by kernel_rfl))
  exact ⟨_, (r4.trans (Runs.many 12 _)).le (by decide), by kernel_rfl, by kernel_rfl, by kernel_rfl⟩
theorem at2_crlf {t : Array Nat} {n s : Nat} {σ : Seen} (hs : s < n) (h : t[s]?.getD 0 = 13) (h1 : s + 1 < n) (h2 : t[s + 1]?.getD 0 = 10) : ∃ m', Runs 40 (at2 t n s true σ) m' ∧ Ends m' (some (s, s + 2)) := by
  have r1 := Runs.many 1 (at2 t n s true σ)
  have r2 := r1.trans (lit_yes (t := t) (n := n) (q := s) 13 hs h (by kernel_rfl) (by kernel_rfl) (by kernel_rfl) (by kernel_rfl) (by kernel_rfl) (by kernel_rfl) (by kernel_rfl) (by kernel_rfl))
  have r3 := r2.trans (lit_yes (t := t) (n := n) (q := s + 1) 10 h1 h2 (by kernel_rfl) (by kernel_rfl) (by kernel_rfl) (by kernel_rfl) (by kernel_rfl) (by kernel_rfl) (by kernel_rfl) (by kernel_rfl))
  exact ⟨_, (r3.trans (Runs.many 12 _)).le (by decide), by kernel_rfl, by kernel_rfl, by kernel_rfl⟩
theorem at2_cr {t : Array Nat} {n s : Nat} {σ : Seen} (hs : s < n) (h : t[s]?.getD 0 = 13) (h1 : ¬ (s + 1 < n ∧ t[s + 1]?.getD 0 = 10)) : ∃ m', Runs 40 (at2 t n s true σ) m' ∧ Ends m' (some (s, s + 1)) := by
  have r1 := Runs.many 1 (at2 t n s true σ)
  have r2 := r1.trans (lit_yes (t := t) (n := n) (q := s) 13 hs h (by kernel_rfl) (by kernel_rfl) (by kernel_rfl) (by kernel_rfl) (by kernel_rfl) (by kernel_rfl) (by kernel_rfl) (by kernel_rfl))
  have r3 := r2.trans (lit_no (t := t) (n := n) (q := s + 1) 10 h1 (by kernel_rfl) (by kernel_rfl) (by kernel_rfl) (by kernel_rfl) (by kernel_rfl) (by kernel_rfl) (by kernel_rfl) (by kernel_rfl))
  have r4 := r3.trans (Runs.many 1 _)
  have r5 := r4.trans (lit_no (t := t) (n := n) (q := s) 10 (fun q => by rw [h] at q; cases q.2) (by kernel_rfl) (by kernel_rfl) (by kernel_rfl) (by kernel_rfl) (by kernel_rfl) (by kernel_rfl) (by kernel_rfl) (by kernel_rfl))
  have r6 := r5.trans (Runs.many 1 _)
  have r7 := r6.trans (lit_yes (t := t) (n := n) (q := s) 13 hs h (by kernel_rfl) (by kernel_rfl) (by kernel_rfl) (by kernel_rfl) (by kernel_rfl) (by kernel_rfl) (by kernel_rfl) (by kernel_rfl))
  have r8 := r7.trans (Runs.many 1 _)
  have r9 := r8.trans (lit_no (t := t) (n := n) (q := s + 1) 10 h1 (by kernel_rfl) (by kernel_rfl) (by kernel_rfl) (by kernel_rfl) (by kernel_rfl) (by kernel_rfl) (by kernel_rfl) (by kernel_rfl))
  exact ⟨_, (r9.trans (Runs.many 12 _)).le (by decide), by kernel_rfl, by kernel_rfl, by kernel_rfl⟩
end Mine
namespace Mine
open PySem PySem.Sre
/-- the next line end: one sign, or two -/
theorem search2_some {t : Array Nat} {n s a : Nat} (hsa : s ≤ a) (ha : a < n) (hc : isEnd (t[a]?.getD 0)) (h : ∀ i, s ≤ i → i < a → ¬ isEnd (t[i]?.getD 0)) :
    ∃ m', Runs 40 (forSearch code2 t 0 s n false) m' ∧ Ends m' (some (a, if t[a]?.getD 0 = 13 ∧ a + 1 < n ∧ t[a + 1]?.getD 0 = 10 then a + 2 else a + 1)) := by
  obtain ⟨σ', e2⟩ := adm2_some (m := f2 t n s) rfl (a := a) ha hc (a - s) ((f2 t n s).lim + 1 - s) s (f2 t n s).seen (by omega) (by show a - s < n + 1 - s; omega) h
  rw [fresh2 t s n (by omega), from2 rfl, e2]
  show ∃ m', Runs 40 (at2 t n a true σ') m' ∧ _
  rcases hc with hc | hc
  · rw [if_neg (by omega)]; exact at2_lf ha hc
  · by_cases q : a + 1 < n ∧ t[a + 1]?.getD 0 = 10
    · rw [if_pos ⟨hc, q⟩]; exact at2_crlf ha hc q.1 q.2
    · rw [if_neg (fun z => q z.2)]; exact at2_cr ha hc q
end Mine
end
-- part SubF
namespace Mine
theorem calm_SubF (M : PySem.Model) (A : PySem.Around) (e : PySem.Env) (Q : PySem.Flow → PySem.Shared → Prop) (E : PySem.Value → PySem.Shared → Prop) (s : PySem.Shared) (h : PySem.wpAny M A (PySem.execs [] e) Q E s) : PySem.wpAny M A (PySem.execs [] e) Q E s := by
  w_top off
  first | (walk1; fail) | exact h
end Mine
section
open PySem PySem.Calls PyProof.Rows
namespace Mine
theorem slot_pat_sub : Slot "re.Pattern" "sub" "re.Pattern.sub" :=
  .of (owner := "re.Pattern") (n := "sub") (by rw [typeLookup_type, builtinLookup_eq_fast]; kernel_rfl) (by decide +kernel) (by decide +kernel) (by decide +kernel)
    (by first | exact .inl (by decide +kernel) | exact .inr (by decide +kernel)) (by rw [isSubtype_type]; kernel_rfl)
theorem type_pat_sub : typeOf (.builtin "re.Pattern.sub") = pure (.type "method_descriptor") := by show builtinType _ = _; rw [builtinType_eq_fast]; kernel_rfl
theorem entry_pat_sub : entryFor table "re.Pattern.sub" = some Builtin.«re.Pattern.sub» := entryFor_of_tree (by kernel_rfl)
theorem entry_pat_loop : entryFor table "re.Pattern.sub.loop" = some Builtin.«re.Pattern.sub.loop» := entryFor_of_tree (by kernel_rfl)
end Mine
namespace Mine
open PySem PySem.Calls PyProof.Rows
theorem owner_pat : Manifest.owners.lookup (String.ofList ['n', 'r', 'e', 't', 't', 'a', 'P', '.', 'e', 'r'].reverse) = some Manifest.sig_re_Pattern := by kernel_rfl
theorem args_pat_sub (a b c : Value) : argsOk "re.Pattern.sub" ⟨[a, b, c], []⟩ := by
  unfold argsOk; rw [signature?_of (id := "re.Pattern.sub") (n := ['b', 'u', 's']) (o := ['n', 'r', 'e', 't', 't', 'a', 'P', '.', 'e', 'r']) (by kernel_rfl) owner_pat]; kernel_rfl
theorem plainAttrs_pat : PlainAttrs "re.Pattern" :=
  ⟨⟨"object.__getattribute__", by rw [typeLookup_type, builtinLookup_eq_fast]; kernel_rfl, by decide +kernel⟩, by rw [typeLookup_type, builtinLookup_eq_fast]; kernel_rfl⟩
theorem plain_pat_loop : plainId "re.Pattern.sub.loop" = true := by decide +kernel
theorem str_no_call : typeLookup (.type "str") "__call__" = pure none := by rw [typeLookup_type, builtinLookup_eq_fast]; kernel_rfl
theorem fun_call : ∃ i, typeLookup (.type "function") "__call__" = pure (some (.builtin i)) := ⟨"function.__call__", by rw [typeLookup_type, builtinLookup_eq_fast]; kernel_rfl⟩

section
open PySem.Sre PySem.Builtin.Re
variable {prog : Program} {w : World} {A : Around} {E : Value → Shared → Prop} {s : Shared}
theorem drive {Mm : Model} {Q : Sre.M → Shared → Prop} {m' : Sre.M} (hd : m'.outcome.isSome = true) (hQ : Q m' s) : ∀ (turns n : Nat) (m : Sre.M), n ≤ 4 * turns → 0 < turns → M.runFor n m = m' → wpAny Mm A (reDrive turns m) Q E s
  | 0, _, _, _, h, _ => absurd h (Nat.lt_irrefl _)
  | turns + 1, n, m, hn, _, e => by
    unfold reDrive
    by_cases h4 : n ≤ 4
    · have e4 : M.runFor reTurnSteps m = m' := by
        have : reTurnSteps = n + (4 - n) := by show 4 = _; omega
        rw [this, runFor_add, e, runFor_done hd]
      simp only [e4, hd, if_true]
      exact wpAny_pure hQ
    · by_cases hi : (M.runFor reTurnSteps m).outcome.isSome = true
      · have : M.runFor reTurnSteps m = m' := by
          have hs : n = reTurnSteps + (n - 4) := by show n = 4 + (n - 4); omega
          rw [← e, hs, runFor_add, runFor_done hi]
        simp only [this, hd, if_true]
        exact wpAny_pure hQ
      · simp only [if_neg hi]
        refine wpAny_bind (wpAny_rule ?_)
        refine drive hd hQ turns (n - 4) _ (by omega) (by omega) ?_
        have hs : n = reTurnSteps + (n - 4) := by show n = 4 + (n - 4); omega
        rw [← e]
        conv => rhs; rw [hs, runFor_add]
theorem rules_any {Mm : Model} {Q : Unit → Shared → Prop} {c : Nat → Bool} {f : Nat → String} (hQ : Q () s) : ∀ (l : List Nat), wpAny Mm A (forIn l PUnit.unit fun i r => if c i = true then (do rule (f i); pure (ForInStep.yield PUnit.unit)) else pure (ForInStep.yield PUnit.unit) : Sem PUnit) Q E s
  | [] => by rw [List.forIn_nil]; exact wpAny_pure hQ
  | i :: r => by
    rw [List.forIn_cons]
    refine wpAny_bind ?_
    cases c i
    · simp only [Bool.false_eq_true, if_false]
      exact wpAny_pure (rules_any hQ r)
    · simp only [if_true]
      exact wpAny_bind (wpAny_rule (wpAny_pure (rules_any hQ r)))
end
end Mine
end
-- part SubG
namespace Mine
theorem calm_SubG (M : PySem.Model) (A : PySem.Around) (e : PySem.Env) (Q : PySem.Flow → PySem.Shared → Prop) (E : PySem.Value → PySem.Shared → Prop) (s : PySem.Shared) (h : PySem.wpAny M A (PySem.execs [] e) Q E s) : PySem.wpAny M A (PySem.execs [] e) Q E s := by
  w_top off
  first | (walk1; fail) | exact h
end Mine
section
open PySem PySem.Calls PyProof.Rows
set_option linter.unusedVariables false
namespace Mine
section
open PySem.Sre PySem.Builtin.Re
variable {prog : Program} {w : World} {A : Around} {E : Value → Shared → Prop} {s : Shared}

noncomputable def Found (r : Option (Nat × Nat)) (Q : Option Sre.M → Shared → Prop) (s : Shared) : Prop := match r with
  | some (a, b) => ∀ m' : Sre.M, m'.start = a → m'.handed = b → Q (some m') s
  | none => Q none s
theorem reRun {Mm : Model} {m m' : Sre.M} {k : Nat} {r : Option (Nat × Nat)} {Q : Option Sre.M → Shared → Prop} (hr : Runs k m m') (hk : k ≤ 1000000) (he : Ends m' r) (hQ : Found r Q s) : wpAny Mm A (reRunToEnd m) Q E s := by
  obtain ⟨n, hn, e⟩ := hr
  have hd : m'.outcome.isSome = true := by
    cases r with
    | none => rw [show m'.outcome = _ from he]; rfl
    | some p => obtain ⟨a, b⟩ := p; rw [he.1]; rfl
  unfold reRunToEnd
  refine wpAny_bind (drive hd ?_ (2 ^ 64) n m ?_ (Nat.two_pow_pos 64) e)
  · refine wpAny_bind (rules_any ?_ _)
    cases r with
    | none =>
      have h1 : m'.outcome = some .failed := he
      rw [h1]
      exact wpAny_pure hQ
    | some p =>
      obtain ⟨a, b⟩ := p
      obtain ⟨h1, h2, h3⟩ := he
      rw [h1]
      exact wpAny_pure (hQ m' h2 h3)
  · exact Nat.le_trans hn (Nat.le_trans hk (Nat.le_of_ble_eq_true (by decide)))

/-- a compiled pattern without groups, its code behind -/
structure Pat (h : Heap) (pat tup : Addr) (code : Array Nat) : Prop where
  pat : ∃ o v0 v1 v3 v4, h.get? pat = some o ∧ o.cls = .type "re.Pattern" ∧ o.dict = none ∧ o.data = .fields #[v0, v1, .int 0 0, v3, v4, .ref tup, .int 0 0]
  tup : ∃ o items ep, h.get? tup = some o ∧ o.data = .seq items ep ∧ (items.map reRawOf).map (·.toNat) = code
theorem Pat.keeps {h h' : Heap} {pat tup : Addr} {code : Array Nat} (P : Pat h pat tup code) (k : ∀ b o, h.get? b = some o → h'.get? b = some o) : Pat h' pat tup code :=
  ⟨let ⟨o, v0, v1, v3, v4, e, r⟩ := P.pat; ⟨o, v0, v1, v3, v4, k _ _ e, r⟩, let ⟨o, i, ep, e, r⟩ := P.tup; ⟨o, i, ep, k _ _ e, r⟩⟩

theorem whole {Mm : Model} {pat tup : Addr} {code : Array Nat} {x : Str} {u : Tok} {Q : ReTarget → Shared → Prop} (P : Pat s.heap pat tup code)
    (hQ : Q { pattern := .ref pat, string := .str x u, code, text := x.cps, kind := 0, groups := 0, pos := 0, lim := x.cps.size } s) : wpAny Mm A (reWholeTarget (.ref pat) (.str x u)) Q E s := by
  obtain ⟨o, v0, v1, v3, v4, e, hc, hd, hf⟩ := P.pat
  obtain ⟨ot, items, ep, et, hs, hcode⟩ := P.tup
  unfold reWholeTarget
  refine wpAny_bind (wpAny_fieldsOf e hf ?_)
  refine wpAny_bind (m := reTextOf (.str x u)) (wpAny_pure ?_)
  show wpAny Mm A (do reNoCollectionInside (.str x u) 0; _) Q E s
  refine wpAny_bind (wpAny_pure ?_)
  refine wpAny_bind (m := reRawItems (.ref tup)) ?_
  unfold reRawItems
  refine wpAny_bind (wpAny_seqItems et hs (wpAny_pure ?_))
  show wpAny Mm A (pure _) Q E s
  refine wpAny_pure ?_
  subst hcode
  exact hQ

inductive Scans (code : Array Nat) (x : Array Nat) : Nat → List (Nat × Nat) → Prop
  | none {start : Nat} : (∃ m' k, k ≤ 1000000 ∧ Runs k (forSearch code x 0 start x.size false) m' ∧ Ends m' .none) → Scans code x start []
  | some {start a b : Nat} {r : List (Nat × Nat)} : (∃ m' k, k ≤ 1000000 ∧ Runs k (forSearch code x 0 start x.size false) m' ∧ Ends m' (.some (a, b))) → a < b → Scans code x b r → Scans code x start ((a, b) :: r)
noncomputable def pieces (x repl : Str) : Nat → List (Nat × Nat) → List Str
  | start, [] => if start < x.cps.size then [⟨x.cps.extract start x.cps.size⟩] else []
  | start, (a, b) :: r => (if start < a then [⟨x.cps.extract start a⟩] else []) ++ repl :: pieces x repl b r

theorem pushSeq {Mm : Model} {D : Addr} {items : Array Value} {v : Value} {Q : Unit → Shared → Prop} (hl : s.heap.IsList D items) (hz : items.size ≤ sizeLine)
    (h : ∀ h', h'.IsList D (items.push v) → Heap.SameBut D s.heap h' → Q () { s with heap := h' }) : wpAny Mm A (updateSeq D (·.push v)) Q E s := by
  obtain ⟨o, ho, hc, n, hd⟩ := hl
  refine wpAny_updateSeq ho hd (h _ ?_ (Heap.SameBut.update ..)) hz
  refine ⟨Obj.mapSeq (·.push v) o, ?_, ?_⟩
  · refine Heap.get?_update_self _ ho ?_
    obtain ⟨c, d, dt, sl⟩ := o
    simp only at hd; subst hd; rfl
  · obtain ⟨c, d, dt, sl⟩ := o
    simp only at hd hc; subst hd; subst hc
    exact ⟨rfl, _, rfl⟩
end
end Mine
end
-- part SubH
namespace Mine
theorem calm_SubH (M : PySem.Model) (A : PySem.Around) (e : PySem.Env) (Q : PySem.Flow → PySem.Shared → Prop) (E : PySem.Value → PySem.Shared → Prop) (s : PySem.Shared) (h : PySem.wpAny M A (PySem.execs [] e) Q E s) : PySem.wpAny M A (PySem.execs [] e) Q E s := by
  w_top off
  first | (walk1; fail) | exact h
end Mine
section
open PySem PySem.Calls PyProof.Rows
set_option linter.unusedVariables false
namespace Mine
section
open PySem.Sre PySem.Builtin.Re
variable {prog : Program} {w : World}
theorem extract_len {α : Type} (t : Array α) (a b : Nat) : (t.extract a b).size ≤ t.size := by
  rw [Array.size_extract]; omega

theorem sv_size (l : List (Str × Tok)) : (strValues l).toArray.size = l.length := by simp [strValues]
theorem sv_push (l : List (Str × Tok)) (y : Str) (t : Tok) : (strValues l).toArray.push (.str y t) = (strValues (l ++ [(y, t)])).toArray := by simp [strValues]
theorem line_ge {n : Nat} (h : n ≤ 1000000) : n ≤ sizeLine := Nat.le_trans h (Nat.le_of_ble_eq_true (by decide))

theorem sub_loop {pat tup D : Addr} {code : Array Nat} {x repl : Str} {u rt : Tok} (hx : x.cps.size ≤ 100000) (hrl : repl.cps.size ≤ 100) : ∀ (ms : List (Nat × Nat)) (start k : Nat) (A : Around) (s : Shared) (l : List (Str × Tok)) (R : Result → Shared → Prop),
    Pat s.heap pat tup code → D ≠ pat → D ≠ tup → Scans code x.cps start ms → s.heap.IsList D (strValues l).toArray → l.length + 2 * ms.length + 1 ≤ 100000 → JoinOk ⟨#[]⟩ (l.map (·.1) ++ pieces x repl start ms) = true →
    (∀ t' h' tk', (∀ b o, b ≠ D → s.heap.get? b = some o → h'.get? b = some o) → R (.ok (.ret (.str (Txt.join ⟨#[]⟩ (l.map (·.1) ++ pieces x repl start ms)) t'))) { s with heap := h', toks := tk' }) →
    codeAny (model prog w) A (.builtin "re.Pattern.sub.loop" ⟨[.ref pat, .str x u, .str repl rt, rawInt 0, rawInt 0, rawInt k, rawInt start, rawInt start, .bool false, .ref D, .bool false], []⟩) R s := by
    intro ms
    induction hn : ms.length using Nat.strongRecOn generalizing ms with
    | _ n ih =>
    intro start k A s l R P hDp hDt S hl hlen hok hR
    refine codeAny_builtin entry_pat_loop ?_
    rw [Around.under_plainId plain_pat_loop]
    unfold Builtin.«re.Pattern.sub.loop»
    dsimp only [rawInt]
    refine wpAny_bind (whole P ?_)
    rw [if_pos (show (0 == 0) = true from rfl)]
    refine wpAny_bind (m := reLiteralCannotBeTurned _) ?_
    unfold reLiteralCannotBeTurned
    refine wpAny_bind (m := asStr? _) (wpAny_pure ?_)
    rw [if_neg (show ¬ ((some repl).isNone = true) from Bool.false_ne_true)]
    refine wpAny_pure ?_
    refine wpAny_bind ?_
    have e0 : ¬ ((((0 : Int) != 0) && decide ((k : Int) ≥ 0)) = true) := by simp
    rw [if_neg e0]
    unfold reNextFound
    have es : ((start : Int)).toNat = start := Int.toNat_natCast _
    simp only [es]
    have hlsz : (strValues l).toArray.size ≤ sizeLine := by rw [sv_size]; exact line_ge (by omega)
    have ex : ∀ a b, (⟨x.cps.extract a b⟩ : Str).length ≤ sizeLine := fun a b => line_ge (Nat.le_trans (extract_len x.cps a b) (by omega))
    cases S with
    | none hq =>
      obtain ⟨m', kk, hk, hr, he⟩ := hq
      refine reRun hr hk he ?_
      show wpAny _ _ _ _ _ _
      dsimp only
      have fin : ∀ (s₁ : Shared) (l₁ : List (Str × Tok)), s₁.heap.IsList D (strValues l₁).toArray → l₁.map (·.1) = l.map (·.1) ++ pieces x repl start [] → (∃ h tk, s₁ = { s with heap := h, toks := tk } ∧ ∀ b o, b ≠ D → s.heap.get? b = some o → h.get? b = some o) →
          wpAny (model prog w) A.in1 (do
            let joiner ← reSlice x.cps 0 0 0
            let __do_lift ← seqItems? (.ref D)
            if (__do_lift.getD #[]).isEmpty = true then (do
              let text ← pure joiner
              if false = true then (do
                let __do_lift ← holding [text] (do let __do_lift ← mkInt (k : Int); newTuple [text, __do_lift])
                ret __do_lift) else ret text) else (do
              let text ← call (.builtin (if (0 == 0) = true then "str.join" else "bytes.join")) [joiner, .ref D]
              if false = true then (do
                let __do_lift ← holding [text] (do let __do_lift ← mkInt (k : Int); newTuple [text, __do_lift])
                ret __do_lift) else ret text))
            (fun fin s' => match fin with | .done f => R (.ok f) s' | .again c' => c'.quiet = true ∧ codeAny (model prog w) A c' R s') (fun e s' => R (.error e) s') s₁ := by
        rintro s₁ l₁ hl₁ hm ⟨h₁, tk₁, rfl, hk₁⟩
        refine wpAny_bind ?_
        unfold reSlice
        rw [if_pos (show (0 == 0) = true from rfl)]
        refine wpAny_mkStr ?_ (ex 0 0)
        obtain ⟨oD, hoD, hcD, nD, hdD⟩ := id hl₁
        refine wpAny_bind (wpAny_seqItems hoD hdD ?_)
        have e1 : (⟨x.cps.extract 0 0⟩ : Str) = ⟨#[]⟩ := by rw [Array.extract_empty_of_stop_le_start (Nat.le_refl 0)]
        rw [e1]
        by_cases hem : ((some (strValues l₁).toArray).getD #[]).isEmpty = true
        · rw [if_pos hem]
          refine wpAny_bind (wpAny_pure ?_)
          rw [if_neg Bool.false_ne_true]
          refine wpAny_pure ?_
          have hn : l₁ = [] := by
            have : (strValues l₁).toArray.isEmpty = true := hem
            simpa [strValues] using this
          have := hR tk₁ h₁ (tk₁ + 1) hk₁
          rw [← hm, hn] at this
          exact this
        · rw [if_neg hem]
          refine wpAny_bind ?_
          rw [if_pos (show (0 == 0) = true from rfl)]
          refine SC.join hl₁ hm hok fun t' k' => ?_
          rw [if_neg Bool.false_ne_true]
          exact wpAny_pure (hR t' h₁ k' hk₁)
      by_cases hlt : start < x.cps.size
      · rw [if_pos hlt]
        refine wpAny_bind ?_
        unfold reSlice
        rw [if_pos (show (0 == 0) = true from rfl)]
        refine wpAny_mkStr ?_ (ex _ _)
        refine wpAny_bind (pushSeq hl hlsz fun h' hl' hs' => ?_)
        refine fin _ (l ++ [(⟨x.cps.extract start x.cps.size⟩, s.toks)]) (by rw [← sv_push]; exact hl') ?_ ⟨h', s.toks + 1, rfl, fun b o hb e => (hs'.2 b hb).trans e⟩
        rw [List.map_append]
        unfold pieces
        rw [if_pos hlt]; rfl
      · rw [if_neg hlt]
        refine fin s l hl ?_ ⟨s.heap, s.toks, rfl, fun b o _ e => e⟩
        unfold pieces
        rw [if_neg hlt, List.append_nil]
    | some hq hab hS =>
      rename_i a b r
      obtain ⟨m', kk, hk, hr, he⟩ := hq
      refine reRun hr hk he ?_
      intro m ha hb
      show wpAny _ _ _ _ _ _
      dsimp only
      subst ha hb
      have hne : (m.handed == m.start) = false := by
        have : m.handed ≠ m.start := by omega
        simpa using this
      have hlr : ((m.start, m.handed) :: r).length = r.length + 1 := rfl
      have tail : ∀ (s₁ : Shared) (l₁ : List (Str × Tok)), s₁.heap.IsList D (strValues l₁).toArray → l₁.length ≤ l.length + 1 → l₁.map (·.1) ++ repl :: pieces x repl m.handed r = l.map (·.1) ++ pieces x repl start ((m.start, m.handed) :: r) → (∃ h tk, s₁ = { s with heap := h, toks := tk } ∧ ∀ b o, b ≠ D → s.heap.get? b = some o → h.get? b = some o) →
          wpAny (model prog w) A.in1 (do
            updateSeq D fun y => y.push (.str repl rt)
            again (Code.builtin "re.Pattern.sub.loop" { pos := [.ref pat, .str x u, .str repl rt, .int 0 0, .int 0 0, .int ((k : Int) + 1) 0, .int (m.handed : Int) 0, .int (m.handed : Int) 0, .bool (m.handed == m.start), .ref D, .bool false] }))
            (fun fin s' => match fin with | .done f => R (.ok f) s' | .again c' => c'.quiet = true ∧ codeAny (model prog w) A c' R s') (fun e s' => R (.error e) s') s₁ := by
        rintro s₁ l₁ hl₁ hlen₁ hm ⟨h₁, tk₁, rfl, hk₁⟩
        refine wpAny_bind (pushSeq hl₁ (by rw [sv_size]; exact line_ge (by omega)) fun h' hl' hs' => ?_)
        rw [hne]
        refine wpAny_pure ⟨plainId_quiet plain_pat_loop _, ?_⟩
        rw [sv_push] at hl'
        have kp : ∀ b o, b ≠ D → s.heap.get? b = some o → h'.get? b = some o := fun b o hb e => (hs'.2 b hb).trans (hk₁ b o hb e)
        have hm' : (l₁ ++ [(repl, rt)]).map (·.1) ++ pieces x repl m.handed r = l.map (·.1) ++ pieces x repl start ((m.start, m.handed) :: r) := by
          rw [← hm, List.map_append, List.append_assoc]; rfl
        obtain ⟨o, v0, v1, v3, v4, ep, q1⟩ := P.pat
        obtain ⟨ot, it, ep2, et, q2⟩ := P.tup
        refine ih r.length (by rw [← hn]; exact Nat.lt_succ_self _) r rfl m.handed (k + 1) A _ (l₁ ++ [(repl, rt)]) R ⟨⟨o, v0, v1, v3, v4, kp _ _ hDp.symm ep, q1⟩, ⟨ot, it, ep2, kp _ _ hDt.symm et, q2⟩⟩ hDp hDt hS hl' (by rw [List.length_append]; simp only [List.length_cons, List.length_nil]; omega) (by rw [hm']; exact hok) ?_
        rw [hm']
        exact fun t' h'' tk' hk'' => hR t' h'' tk' fun b o hb e => hk'' b o hb (kp b o hb e)
      by_cases hlt : start < m.start
      · rw [if_pos hlt]
        refine wpAny_bind ?_
        unfold reSlice
        rw [if_pos (show (0 == 0) = true from rfl)]
        refine wpAny_mkStr ?_ (ex _ _)
        refine wpAny_bind (pushSeq hl hlsz fun h' hl' hs' => ?_)
        rw [if_pos (show ((0 : Int) == 0) = true from rfl)]
        refine wpAny_bind (wpAny_pure ?_)
        rw [if_pos (show (Value.str repl rt != Value.none) = true from rfl)]
        refine tail _ (l ++ [(⟨x.cps.extract start m.start⟩, s.toks)]) (by rw [← sv_push]; exact hl') (by rw [List.length_append]; simp) ?_ ⟨h', s.toks + 1, rfl, fun b o hb e => (hs'.2 b hb).trans e⟩
        rw [List.map_append, show pieces x repl start ((m.start, m.handed) :: r) = (if start < m.start then [⟨x.cps.extract start m.start⟩] else []) ++ repl :: pieces x repl m.handed r from rfl, if_pos hlt, List.append_assoc]; rfl
      · rw [if_neg hlt]
        rw [if_pos (show ((0 : Int) == 0) = true from rfl)]
        refine wpAny_bind (wpAny_pure ?_)
        rw [if_pos (show (Value.str repl rt != Value.none) = true from rfl)]
        refine tail s l hl (by omega) ?_ ⟨s.heap, s.toks, rfl, fun b o _ e => e⟩
        rw [show pieces x repl start ((m.start, m.handed) :: r) = (if start < m.start then [⟨x.cps.extract start m.start⟩] else []) ++ repl :: pieces x repl m.handed r from rfl, if_neg hlt, List.nil_append]
end
end Mine
end
-- part SubI
namespace Mine
theorem calm_SubI (M : PySem.Model) (A : PySem.Around) (e : PySem.Env) (Q : PySem.Flow → PySem.Shared → Prop) (E : PySem.Value → PySem.Shared → Prop) (s : PySem.Shared) (h : PySem.wpAny M A (PySem.execs [] e) Q E s) : PySem.wpAny M A (PySem.execs [] e) Q E s := by
  w_top off
  first | (walk1; fail) | exact h
end Mine
section
open PySem PySem.Calls PyProof.Rows
set_option linter.unusedVariables false
namespace Mine
section
open PySem.Sre PySem.Builtin.Re
variable {prog : Program} {w : World} {A : Around} {E : Value → Shared → Prop} {s : Shared}
theorem named_sub (a b : Value) : reNamed "re.Pattern.sub" "sub" ["repl", "string", "count"] 2 [a, b] [] = pure [some a, some b, none] := by rfl
theorem sub_call {pat tup : Addr} {code : Array Nat} {x repl : Str} {u rt : Tok} {ms : List (Nat × Nat)} {Q : Value → Shared → Prop} (P : Pat s.heap pat tup code) (hx : x.cps.size ≤ 100000) (hrl : repl.cps.size ≤ 100) (hb : repl.cps.contains 92 = false)
    (S : Scans code x.cps 0 ms) (hms : 2 * ms.length + 1 ≤ 100000) (hok : JoinOk ⟨#[]⟩ (pieces x repl 0 ms) = true)
    (hQ : ∀ t' h' tk', (∀ b o, s.heap.get? b = some o → h'.get? b = some o) → Q (.str (Txt.join ⟨#[]⟩ (pieces x repl 0 ms)) t') { s with heap := h', toks := tk' }) :
    wpAny (model prog w) A (call (.builtin "re.Pattern.sub") [.ref pat, .str repl rt, .str x u]) Q E s := by
  obtain ⟨op, v0, v1, v3, v4, ep, hc, hd, hf⟩ := id P.pat
  obtain ⟨ot, it, ep2, et, q2⟩ := id P.tup
  refine wpAny_call (codeAny_call_builtin slot_pat_sub.plain entry_pat_sub (slot_pat_sub.check _ _ _ _ _ _ _ _ ⟨op, ep, hc⟩ (args_pat_sub _ _ _) ?_))
  show wpAny _ _ (reSubstitute "re.Pattern.sub" "sub" false ⟨[.ref pat, .str repl rt, .str x u], []⟩) _ _ _
  unfold reSubstitute
  dsimp only
  rw [named_sub]
  refine wpAny_bind (wpAny_pure ?_)
  dsimp only
  refine wpAny_bind (wpAny_pure ?_)
  refine wpAny_bind (wpAny_specialOf_val rfl str_no_call ?_)
  rw [if_neg (show ¬ ((none : Option Value).isSome = true) from Bool.false_ne_true)]
  refine wpAny_bind (m := asStr? _) (wpAny_pure ?_)
  dsimp only
  refine wpAny_bind (wpAny_pure ?_)
  rw [if_neg (show ¬ ((none : Option Value).isSome = true) from Bool.false_ne_true)]
  rw [hb]
  rw [if_pos (show (!false) = true from rfl)]
  refine wpAny_bind (wpAny_pure ?_)
  refine wpAny_bind (wpAny_holding (whole P ?_))
  rw [if_neg (show ¬ (((Value.str repl rt, (0 : Int)).snd == 1) = true) from Bool.false_ne_true)]
  refine wpAny_bind (wpAny_newList ?_)
  have kp : ∀ b o, s.heap.get? b = some o → (s.heap.push { cls := .type "list", data := .seq ([] : List Value).toArray }).get? b = some o := fun b o e => Heap.get?_push_of_some _ e
  have hne : ∀ {b : Addr} {o : Obj}, s.heap.get? b = some o → s.heap.objs.size ≠ b := fun e => Nat.ne_of_gt (Heap.lt_size e)
  refine wpAny_pure ⟨plainId_quiet plain_pat_loop _, ?_⟩
  refine sub_loop hx hrl ms 0 0 A _ [] _ (P.keeps kp) (hne ep) (hne et) S ⟨_, Heap.get?_push_size _ rfl, rfl, _, rfl⟩ (by show 0 + _ + 1 ≤ _; omega) hok ?_
  intro t' h' tk' hk
  exact hQ t' h' tk' fun b o e => hk b o (hne e).symm (kp b o e)
end
end Mine
end
-- part SubC
namespace Mine
theorem calm_SubC (M : PySem.Model) (A : PySem.Around) (e : PySem.Env) (Q : PySem.Flow → PySem.Shared → Prop) (E : PySem.Value → PySem.Shared → Prop) (s : PySem.Shared) (h : PySem.wpAny M A (PySem.execs [] e) Q E s) : PySem.wpAny M A (PySem.execs [] e) Q E s := by
  w_top off
  first | (walk1; fail) | exact h
end Mine
section
open PySem PySem.Calls PyProof.Rows
set_option linter.unusedVariables false
set_option maxRecDepth 100000
namespace Mine
section
open PySem.Sre PySem.Builtin.Re
noncomputable def code3 : Array Nat := #[14, 14, 4, 1, 1, 9, 0, 64, 0, 1342177280, 0, 0, 0, 0, 0, 17, 0, 13, 11, 9, 0, 64, 0, 1342177280, 0, 0, 0, 0, 0, 17, 1, 1]
theorem search3 : ∃ m' k, k ≤ 1000000 ∧ Runs k (forSearch code3 #[33, 92, 45] 1 0 3 false) m' ∧ Ends m' none := by
  refine ⟨M.runFor 60 (forSearch code3 #[33, 92, 45] 1 0 3 false), 60, by decide, ⟨60, Nat.le_refl _, rfl⟩, ?_⟩
  show (M.runFor 60 (forSearch code3 #[33, 92, 45] 1 0 3 false)).outcome = some .failed
  rfl
structure Pat3 (h : Heap) (pat tup : Addr) (code : Array Nat) : Prop where
  pat : ∃ o v0 v1 v3 v4, h.get? pat = some o ∧ o.cls = .type "re.Pattern" ∧ o.dict = none ∧ o.data = .fields #[v0, v1, .int 1 0, v3, v4, .ref tup, .int 0 0]
  tup : ∃ o items ep, h.get? tup = some o ∧ o.data = .seq items ep ∧ (items.map reRawOf).map (·.toNat) = code
theorem Pat3.keeps {h h' : Heap} {pat tup : Addr} {code : Array Nat} (P : Pat3 h pat tup code) (k : ∀ b o, h.get? b = some o → h'.get? b = some o) : Pat3 h' pat tup code :=
  ⟨let ⟨o, v0, v1, v3, v4, e, r⟩ := P.pat; ⟨o, v0, v1, v3, v4, k _ _ e, r⟩, let ⟨o, i, ep, e, r⟩ := P.tup; ⟨o, i, ep, k _ _ e, r⟩⟩
variable {prog : Program} {w : World} {A : Around} {E : Value → Shared → Prop} {s : Shared}
theorem whole3 {Mm : Model} {pat tup : Addr} {code : Array Nat} {x : Str} {u : Tok} {Q : ReTarget → Shared → Prop} (P : Pat3 s.heap pat tup code)
    (hQ : Q { pattern := .ref pat, string := .str x u, code, text := x.cps, kind := 0, groups := 1, pos := 0, lim := x.cps.size } s) : wpAny Mm A (reWholeTarget (.ref pat) (.str x u)) Q E s := by
  obtain ⟨o, v0, v1, v3, v4, e, hc, hd, hf⟩ := P.pat
  obtain ⟨ot, items, ep, et, hs, hcode⟩ := P.tup
  unfold reWholeTarget
  refine wpAny_bind (wpAny_fieldsOf e hf ?_)
  refine wpAny_bind (m := reTextOf (.str x u)) (wpAny_pure ?_)
  show wpAny Mm A (do reNoCollectionInside (.str x u) 0; _) Q E s
  refine wpAny_bind (wpAny_pure ?_)
  refine wpAny_bind (m := reRawItems (.ref tup)) ?_
  unfold reRawItems
  refine wpAny_bind (wpAny_seqItems et hs (wpAny_pure ?_))
  show wpAny Mm A (pure _) Q E s
  refine wpAny_pure ?_
  subst hcode
  exact hQ
theorem loop3 {pat tup D f : Addr} {x : Str} {u : Tok} (hx : x.cps = #[33, 92, 45]) {R : Result → Shared → Prop} (P : Pat3 s.heap pat tup code3) (hl : s.heap.IsList D #[])
    (hR : ∀ t' h' tk', (∀ b o, b ≠ D → s.heap.get? b = some o → h'.get? b = some o) → R (.ok (.ret (.str x t'))) { s with heap := h', toks := tk' }) :
    codeAny (model prog w) A (.builtin "re.Pattern.sub.loop" ⟨[.ref pat, .str x u, .ref f, rawInt 1, rawInt 0, rawInt 0, rawInt 0, rawInt 0, .bool false, .ref D, .bool false], []⟩) R s := by
  refine codeAny_builtin entry_pat_loop ?_
  rw [Around.under_plainId plain_pat_loop]
  unfold Builtin.«re.Pattern.sub.loop»
  dsimp only [rawInt]
  refine wpAny_bind (whole3 P ?_)
  rw [if_neg (show ¬ (((1 : Int) == 0) = true) by decide)]
  refine wpAny_bind ?_
  rw [if_neg (by simp)]
  unfold reNextFound
  obtain ⟨m', kk, hk, hr, he⟩ := search3
  have hxs : x.cps.size = 3 := by rw [hx]; rfl
  rw [hxs]
  rw [show forSearch code3 x.cps 1 (Int.toNat 0) 3 false = forSearch code3 #[33, 92, 45] 1 0 3 false from by rw [hx]; rfl]
  refine reRun hr hk he ?_
  show wpAny _ _ _ _ _ _
  dsimp only
  rw [if_pos (show Int.toNat 0 < 3 by decide)]
  refine wpAny_bind ?_
  unfold reSlice
  rw [if_pos (show (0 == 0) = true from rfl)]
  have ex : (⟨x.cps.extract (Int.toNat 0) 3⟩ : Str) = x := by
    cases x with
    | mk c => simp only at hx; subst hx; rfl
  refine wpAny_mkStr ?_ (by rw [ex]; show x.cps.size ≤ _; rw [hxs]; decide)
  rw [ex]
  refine wpAny_bind (pushSeq hl (by decide) fun h' hl' hs' => ?_)
  refine wpAny_bind ?_
  have e1 : (⟨x.cps.extract 0 0⟩ : Str) = ⟨#[]⟩ := by rw [Array.extract_empty_of_stop_le_start (Nat.le_refl 0)]
  refine wpAny_mkStr ?_ (by rw [e1]; decide)
  obtain ⟨oD, hoD, hcD, nD, hdD⟩ := id hl'
  refine wpAny_bind (wpAny_seqItems hoD hdD ?_)
  rw [e1]
  rw [if_neg (show ¬ (((some (#[].push (Value.str x s.toks))).getD #[]).isEmpty = true) from Bool.false_ne_true)]
  refine wpAny_bind ?_
  have hl'' : h'.IsList D (strValues [(x, s.toks)]).toArray := hl'
  have hj : JoinOk ⟨#[]⟩ [x] = true := by
    cases x with
    | mk c => simp only at hx; subst hx; decide +kernel
  refine SC.join (texts := [x]) hl'' rfl hj fun t' k' => ?_
  rw [if_neg Bool.false_ne_true]
  exact wpAny_pure (hR t' h' k' fun b o hb e => (hs'.2 b hb).trans e)
theorem sub_call3 {pat tup f : Addr} {of : Obj} {x : Str} {u : Tok} {Q : Value → Shared → Prop} (P : Pat3 s.heap pat tup code3) (hf : s.heap.get? f = some of) (hfc : of.cls = .type "function") (hx : x.cps = #[33, 92, 45])
    (hQ : ∀ t' h' tk', (∀ b o, s.heap.get? b = some o → h'.get? b = some o) → Q (.str x t') { s with heap := h', toks := tk' }) :
    wpAny (model prog w) A (call (.builtin "re.Pattern.sub") [.ref pat, .ref f, .str x u]) Q E s := by
  obtain ⟨op, v0, v1, v3, v4, ep, hc, hd, hpf⟩ := id P.pat
  obtain ⟨ot, it, ep2, et, q2⟩ := id P.tup
  obtain ⟨i, hi⟩ := fun_call
  refine wpAny_call (codeAny_call_builtin slot_pat_sub.plain entry_pat_sub (slot_pat_sub.check _ _ _ _ _ _ _ _ ⟨op, ep, hc⟩ (args_pat_sub _ _ _) ?_))
  show wpAny _ _ (reSubstitute "re.Pattern.sub" "sub" false ⟨[.ref pat, .ref f, .str x u], []⟩) _ _ _
  unfold reSubstitute
  dsimp only
  rw [named_sub]
  refine wpAny_bind (wpAny_pure ?_)
  dsimp only
  refine wpAny_bind (wpAny_pure ?_)
  refine wpAny_bind (wpAny_specialOf ⟨of, hf, hfc⟩ hi ?_)
  rw [if_pos (show (some (Value.builtin i)).isSome = true from rfl)]
  refine wpAny_bind (wpAny_pure ?_)
  rw [if_pos (show (some (Value.builtin i)).isSome = true from rfl)]
  refine wpAny_bind (wpAny_pure ?_)
  dsimp only
  refine wpAny_bind (wpAny_holding (whole3 P ?_))
  rw [if_pos (show ((1 : Int) == 1) = true from rfl)]
  refine wpAny_bind ?_
  unfold reNotHeld
  refine wpAny_bind (wpAny_isInstance (typeIs_str _ _ _) PySem.F.sub_str_bytearray ?_)
  rw [if_neg Bool.false_ne_true]
  refine wpAny_pure ?_
  refine wpAny_bind (wpAny_newList ?_)
  have kp : ∀ b o, s.heap.get? b = some o → (s.heap.push { cls := .type "list", data := .seq ([] : List Value).toArray }).get? b = some o := fun b o e => Heap.get?_push_of_some _ e
  refine wpAny_pure ⟨plainId_quiet plain_pat_loop _, ?_⟩
  refine loop3 hx (P.keeps kp) ⟨_, Heap.get?_push_size _ rfl, rfl, _, rfl⟩ ?_
  intro t' h' tk' hk
  exact hQ t' h' tk' fun b o e => hk b o (Nat.ne_of_lt (Heap.lt_size e)) (kp b o e)
end
theorem lk53 (P : Params) : ∃ v0 v1 v3 v4 sl, (Mine.hd.heap_1 P).lookup 53 = some { cls := .type "re.Pattern", dict := none, data := .fields #[v0, v1, .int 1 0, v3, v4, .ref 52, .int 0 0], slots := sl } := ⟨_, _, _, _, _, rfl⟩
theorem pat3 {P : Params} {h : Heap} (X : (Mine.hd.heap_1 P).In h) : Pat3 h 53 52 code3 := by
  obtain ⟨v0, v1, v3, v4, sl, e⟩ := lk53 P
  refine ⟨⟨_, v0, v1, v3, v4, X 53 _ e, rfl, rfl, rfl⟩, ?_⟩
  exact ⟨_, _, _, X 52 _ rfl, rfl, by decide +kernel⟩
theorem Pat3.method {M : Model} {A : Around} {E : Value → Shared → Prop} {s : Shared} {pat tup : Addr} {code : Array Nat} {pl : Sem Bool} {Q : Value × List Value → Shared → Prop} (P : Pat3 s.heap pat tup code) (h : Q (.builtin "re.Pattern.sub", [.ref pat]) s) :
    wpAny M A (getMethod (.ref pat) "sub" pl) Q E s := by
  obtain ⟨op, v0, v1, v3, v4, ep, hc, hd, hf⟩ := id P.pat
  exact getMethod_builtin ⟨op, ep, hc⟩ plainAttrs_pat slot_pat_sub type_pat_sub (fun a e => by cases e; exact ⟨op, ep, hd⟩) h
end Mine
end
-- part PlainQ
namespace Mine
theorem calm_PlainQ (M : PySem.Model) (A : PySem.Around) (e : PySem.Env) (Q : PySem.Flow → PySem.Shared → Prop) (E : PySem.Value → PySem.Shared → Prop) (s : PySem.Shared) (h : PySem.wpAny M A (PySem.execs [] e) Q E s) : PySem.wpAny M A (PySem.execs [] e) Q E s := by
  w_top off
  first | (walk1; fail) | exact h
end Mine
section
open PySem PySem.Calls PyProof.Rows PySem.Sre
set_option linter.unusedVariables false
namespace Mine
/-! texts as lists of signs -/
noncomputable def flatP (ps : List Str) : List Nat := ps.flatMap (·.cps.toList)
theorem flatP_cons (p : Str) (ps : List Str) : flatP (p :: ps) = p.cps.toList ++ flatP ps := by simp [flatP]
theorem flatP_append (ps qs : List Str) : flatP (ps ++ qs) = flatP ps ++ flatP qs := by simp [flatP]
theorem join_flat (ps : List Str) : (Txt.join ⟨#[]⟩ ps).cps.toList = flatP ps := by
  show (Builtin.Str.glued ⟨#[]⟩ ps).cps.toList = _
  rw [StrLaws.glued_eq_join]
  induction ps with
  | nil => rfl
  | cons p r ih =>
    cases r with
    | nil => simp [Str.join, flatP]
    | cons q r' =>
      have e : Str.join ⟨#[]⟩ (p :: q :: r') = p ++ ⟨#[]⟩ ++ Str.join ⟨#[]⟩ (q :: r') := rfl
      rw [e, flatP_cons, ← ih]
      show ((p ++ ⟨#[]⟩ ++ Str.join ⟨#[]⟩ (q :: r')).cps).toList = _
      have e2 : ∀ a b : Str, (a ++ b).cps = a.cps ++ b.cps := fun _ _ => rfl
      rw [e2, e2]
      simp
theorem ext_list (T : List Nat) (a b : Nat) : (T.toArray.extract a b).toList = (T.drop a).take (b - a) := by
  simp [List.extract_eq_take_drop] <;> first | rfl | (simp [List.drop_take])
theorem pieces_nil (T : List Nat) (repl : Str) (start : Nat) : flatP (pieces ⟨T.toArray⟩ repl start []) = T.drop start := by
  unfold pieces
  by_cases h : start < T.toArray.size
  · rw [if_pos h, flatP_cons]
    show (T.toArray.extract start T.toArray.size).toList ++ flatP [] = _
    rw [ext_list]
    have : T.toArray.size = T.length := by simp
    rw [this, List.take_of_length_le (by rw [List.length_drop]; exact Nat.le_refl _)]
    simp [flatP]
  · rw [if_neg h]
    have : T.toArray.size = T.length := by simp
    rw [List.drop_of_length_le (by omega)]
    rfl
theorem pieces_cons (T : List Nat) (repl : Str) (start a b : Nat) (r : List (Nat × Nat)) (h : start ≤ a) : flatP (pieces ⟨T.toArray⟩ repl start ((a, b) :: r)) = (T.drop start).take (a - start) ++ repl.cps.toList ++ flatP (pieces ⟨T.toArray⟩ repl b r) := by
  rw [show pieces ⟨T.toArray⟩ repl start ((a, b) :: r) = (if start < a then [⟨T.toArray.extract start a⟩] else []) ++ repl :: pieces ⟨T.toArray⟩ repl b r from rfl, flatP_append, flatP_cons, List.append_assoc]
  congr 1
  by_cases q : start < a
  · rw [if_pos q, flatP_cons]
    show (T.toArray.extract start a).toList ++ flatP [] = _
    rw [ext_list]; simp [flatP]
  · rw [if_neg q]
    have : a - start = 0 := by omega
    rw [this]; rfl

/-! the line ends -/
inductive Sep where
  | lf | cr | crlf
noncomputable def Sep.signs : Sep → List Nat
  | .lf => [10]
  | .cr => [13]
  | .crlf => [13, 10]
abbrev Row := List Nat
noncomputable def Row.ok (r : Row) : Prop := r ≠ [] ∧ ∀ c ∈ r, ¬ isEnd c
noncomputable def flat2 (rs : List (Row × Sep)) : List Nat := rs.flatMap fun p => p.1 ++ p.2.signs
noncomputable def ms2 : Nat → List (Row × Sep) → List (Nat × Nat)
  | _, [] => []
  | n, p :: r => (n + p.1.length, n + p.1.length + p.2.signs.length) :: ms2 (n + p.1.length + p.2.signs.length) r
theorem at_l {pre rest : List Nat} {T : List Nat} (e : T = pre ++ rest) (i : Nat) : T.toArray[pre.length + i]?.getD 0 = rest[i]?.getD 0 := by
  subst e
  rw [List.getElem?_toArray, List.getElem?_append_right (Nat.le_add_right _ _)]
  congr 2
  omega
theorem scans2 : ∀ (rs : List (Row × Sep)) (pre T : List Nat), T = pre ++ flat2 rs → T.length ≤ 100000 → (∀ p ∈ rs, Row.ok p.1) → Scans code2 T.toArray pre.length (ms2 pre.length rs)
  | [], pre, T, e, hl, h => by
    have e1 : T.toArray.size = pre.length := by rw [e]; simp [flat2]
    obtain ⟨m', r, en⟩ := search2_none (t := T.toArray) (n := T.toArray.size) (s := pre.length) (by omega) (fun i h1 h2 => by omega)
    exact .none ⟨m', 1, by decide, r, en⟩
  | (row, sep) :: rs, pre, T, e, hl, h => by
    obtain ⟨hne, hrow⟩ := h (row, sep) (List.mem_cons_self ..)
    have e1 : T = pre ++ (row ++ (sep.signs ++ flat2 rs)) := by rw [e]; simp [flat2]
    have e2 : T = (pre ++ row) ++ (sep.signs ++ flat2 rs) := by rw [e1]; simp
    have e3 : T = (pre ++ row ++ sep.signs) ++ flat2 rs := by rw [e1]; simp
    have hsz : T.toArray.size = pre.length + row.length + sep.signs.length + (flat2 rs).length := by rw [e3]; simp; omega
    have hsp : 0 < sep.signs.length := by cases sep <;> decide
    have hA : T.toArray[pre.length + row.length]?.getD 0 = (sep.signs ++ flat2 rs)[0]?.getD 0 := by
      have := at_l e2 0
      rw [List.length_append] at this
      exact this
    have hB : T.toArray[pre.length + row.length + 1]?.getD 0 = (sep.signs ++ flat2 rs)[1]?.getD 0 := by
      have := at_l e2 1
      rw [List.length_append] at this
      exact this
    have free : ∀ i, pre.length ≤ i → i < pre.length + row.length → ¬ isEnd (T.toArray[i]?.getD 0) := fun i h1 h2 => by
      obtain ⟨j, rfl⟩ : ∃ j, i = pre.length + j := ⟨i - pre.length, by omega⟩
      rw [at_l e1 j, List.getElem?_append_left (by omega), List.getElem?_eq_getElem (by omega)]
      exact hrow _ (List.getElem_mem _)
    have hfirst : ∀ c, (flat2 rs)[0]? = some c → c ≠ 10 := fun c hc => by
      cases rs with
      | nil => simp [flat2] at hc
      | cons p r =>
        obtain ⟨hn, hr⟩ := h p (List.mem_cons_of_mem _ (List.mem_cons_self ..))
        obtain ⟨c0, r0, e0⟩ := List.exists_cons_of_ne_nil hn
        have : (flat2 (p :: r))[0]? = some c0 := by simp [flat2, e0]
        rw [this] at hc
        rw [← Option.some.inj hc]
        exact fun q => hr c0 (by rw [e0]; exact List.mem_cons_self ..) (.inl q)
    have hends : isEnd (T.toArray[pre.length + row.length]?.getD 0) := by
      rw [hA]; cases sep <;> simp [Sep.signs, isEnd]
    obtain ⟨m', r, en⟩ := search2_some (t := T.toArray) (n := T.toArray.size) (s := pre.length) (a := pre.length + row.length) (Nat.le_add_right _ _) (by omega) hends free
    have hb : (if T.toArray[pre.length + row.length]?.getD 0 = 13 ∧ pre.length + row.length + 1 < T.toArray.size ∧ T.toArray[pre.length + row.length + 1]?.getD 0 = 10 then pre.length + row.length + 2 else pre.length + row.length + 1) = pre.length + row.length + sep.signs.length := by
      rw [hA, hB, hsz]
      cases sep with
      | lf => simp [Sep.signs]
      | crlf => simp [Sep.signs]; omega
      | cr =>
        have : ¬ ((flat2 rs)[0]?.getD 0 = 10) := by
          cases hq : (flat2 rs)[0]? with
          | none => simp
          | some c => simpa using hfirst c hq
        simp [Sep.signs]
        intro _
        simpa using this
    rw [hb] at en
    have step := scans2 rs (pre ++ row ++ sep.signs) T e3 hl fun p hp => h p (List.mem_cons_of_mem _ hp)
    have hlen : (pre ++ row ++ sep.signs).length = pre.length + row.length + sep.signs.length := by simp [List.length_append]; omega
    rw [hlen] at step
    exact .some ⟨m', 40, by decide, r, en⟩ (by dsimp only; omega) step
end Mine
namespace Mine
open PySem PySem.Calls PyProof.Rows PySem.Sre
theorem take_mid {α : Type} (p q r : List α) (n : Nat) (h : n = q.length) : ((p ++ (q ++ r)).drop p.length).take n = q := by
  subst h; simp
theorem flat_ms2 (repl : Str) : ∀ (rs : List (Row × Sep)) (pre T : List Nat), T = pre ++ flat2 rs → flatP (pieces ⟨T.toArray⟩ repl pre.length (ms2 pre.length rs)) = rs.flatMap fun p => p.1 ++ repl.cps.toList
  | [], pre, T, e => by
    show flatP (pieces _ repl pre.length []) = _
    rw [pieces_nil, e]; simp [flat2]
  | (row, sep) :: rs, pre, T, e => by
    have e1 : T = pre ++ (row ++ (sep.signs ++ flat2 rs)) := by rw [e]; simp [flat2]
    have e3 : T = (pre ++ row ++ sep.signs) ++ flat2 rs := by rw [e1]; simp
    have hlen : (pre ++ row ++ sep.signs).length = pre.length + row.length + sep.signs.length := by simp [List.length_append]; omega
    have ih := flat_ms2 repl rs _ T e3
    rw [hlen] at ih
    show flatP (pieces _ repl pre.length ((pre.length + row.length, pre.length + row.length + sep.signs.length) :: ms2 (pre.length + row.length + sep.signs.length) rs)) = _
    rw [pieces_cons _ _ _ _ _ _ (Nat.le_add_right _ _), ih, e1, take_mid _ _ _ _ (by omega)]
    rfl
theorem joinOk_flat {ps : List Str} (h : (flatP ps).length ≤ 1000000) : JoinOk ⟨#[]⟩ ps = true := by
  unfold JoinOk
  rw [StrLaws.joinTotal]
  have e : (ps.map (·.length)).sum = (flatP ps).length := by
    clear h
    induction ps with
    | nil => rfl
    | cons p r ih => rw [flatP_cons, List.length_append, List.map_cons, List.sum_cons, ih]; rfl
  have e2 : ps.length * (⟨#[]⟩ : Str).length = 0 := Nat.mul_zero _
  rw [e, e2]
  unfold Builtin.Str.tooLong
  have := line_ge h
  simp; omega
/-- the first pass: a text of rows and line ends comes back as the rows with both signs behind each -/
noncomputable def crlf : List Nat := [13, 10]

/-! the dots -/
noncomputable def flatC (rs : List Row) : List Nat := rs.flatMap fun r => r ++ crlf
noncomputable def dots (r : Row) : Row := if r.head? = some 46 then 46 :: r else r
noncomputable def ms1 : Nat → List Row → List (Nat × Nat)
  | _, [] => []
  | n, r :: rs => if r.head? = some 46 then (n, n + 1) :: ms1 (n + r.length + 2) rs else ms1 (n + r.length + 2) rs
theorem scans1 : ∀ (rs : List Row) (pre mid T : List Nat), T = pre ++ (mid ++ flatC rs) → T.length ≤ 100000 → (∀ r ∈ rs, Row.ok r) → (pre ++ mid = [] ∨ (pre ++ mid).getLast? = some 10) →
    (∀ i, pre.length ≤ i → i < pre.length + mid.length → ¬ (bol T.toArray i ∧ T.toArray[i]?.getD 0 = 46)) →
    Scans code1 T.toArray pre.length (ms1 (pre.length + mid.length) rs) ∧ flatP (pieces ⟨T.toArray⟩ (Str.ofString "..") pre.length (ms1 (pre.length + mid.length) rs)) = mid ++ flatC (rs.map dots)
  | [], pre, mid, T, e, hl, h, hb, hm => by
    have e0 : T = pre ++ mid := by rw [e]; simp [flatC]
    have e1 : T.toArray.size = pre.length + mid.length := by rw [e0]; simp
    refine ⟨?_, ?_⟩
    · obtain ⟨m', r, en⟩ := search1_none (t := T.toArray) (n := T.toArray.size) (s := pre.length) (by omega) (fun i h1 h2 => hm i h1 (by omega))
      have hq1 : T.toArray.size ≤ 100000 := by simpa using hl
      exact .none ⟨m', _, by omega, r, en⟩
    · show flatP (pieces _ _ pre.length []) = _
      rw [pieces_nil, e0]; simp [flatC]
  | row :: rs, pre, mid, T, e, hl, h, hb, hm => by
    obtain ⟨hne, hrow⟩ := h row (List.mem_cons_self ..)
    obtain ⟨c0, r0, rfl⟩ := List.exists_cons_of_ne_nil hne
    have hsz0 : T.toArray.size ≤ 100000 := by simpa using hl
    have e1 : T = (pre ++ mid) ++ ((c0 :: r0) ++ crlf ++ flatC rs) := by rw [e]; simp [flatC]
    have hpm : (pre ++ mid).length = pre.length + mid.length := List.length_append
    have hat : ∀ j, T.toArray[pre.length + mid.length + j]?.getD 0 = ((c0 :: r0) ++ crlf ++ flatC rs)[j]?.getD 0 := fun j => by
      have := at_l e1 j
      rw [hpm] at this
      exact this
    have hsz : T.toArray.size = pre.length + mid.length + ((c0 :: r0).length + 2 + (flatC rs).length) := by rw [e1]; simp [crlf]; omega
    have hbol : bol T.toArray (pre.length + mid.length) := by
      rcases hb with hb | hb
      · left
        have : (pre ++ mid).length = 0 := by rw [hb]; rfl
        omega
      · right
        obtain ⟨z, hz⟩ := List.getLast?_eq_some_iff.mp hb
        have hz2 : pre.length + mid.length - 1 = z.length := by rw [← hpm, hz]; simp
        have e2 : T = z ++ (10 :: ((c0 :: r0) ++ crlf ++ flatC rs)) := by rw [e1, hz]; simp
        have := at_l e2 0
        rw [hz2]
        simpa using this
    -- no line begins within the row and its two signs, but at its first
    have inrow : ∀ j, 0 < j → j < (c0 :: r0).length + 2 → ¬ bol T.toArray (pre.length + mid.length + j) := fun j h1 h2 hq => by
      rcases hq with hq | hq
      · omega
      · have e3 : pre.length + mid.length + j - 1 = pre.length + mid.length + (j - 1) := by omega
        rw [e3, hat (j - 1)] at hq
        by_cases h3 : j - 1 < (c0 :: r0).length
        · rw [List.append_assoc, List.getElem?_append_left h3, List.getElem?_eq_getElem h3] at hq
          exact hrow _ (List.getElem_mem h3) (.inl hq)
        · have h4 : j - 1 = (c0 :: r0).length := by omega
          rw [List.append_assoc, List.getElem?_append_right (by omega), h4, Nat.sub_self] at hq
          exact absurd hq (by simp [crlf])
    have hlast : ∀ z : List Nat, (z ++ crlf).getLast? = some 10 := fun z => by simp [crlf]
    by_cases hc : c0 = 46
    · subst hc
      have e4 : T = (pre ++ mid ++ [46]) ++ ((r0 ++ crlf) ++ flatC rs) := by rw [e1]; simp
      have hl4 : (pre ++ mid ++ [46]).length = pre.length + mid.length + 1 := by simp; omega
      have hdot : T.toArray[pre.length + mid.length]?.getD 0 = 46 := by
        have := hat 0
        simpa using this
      obtain ⟨m', r, en⟩ := search1_some (t := T.toArray) (n := T.toArray.size) (s := pre.length) (a := pre.length + mid.length) (Nat.le_add_right _ _) (by rw [hsz]; simp; omega) hbol hdot (fun i h1 h2 => hm i h1 h2)
      have ih := scans1 rs (pre ++ mid ++ [46]) (r0 ++ crlf) T e4 hl (fun q hq => h q (List.mem_cons_of_mem _ hq)) (.inr (by rw [← List.append_assoc]; exact hlast _)) (fun i h1 h2 hq => by
        rw [hl4] at h1 h2
        have h2' : i < pre.length + mid.length + 1 + (r0.length + 2) := by simpa [crlf] using h2
        obtain ⟨j, rfl⟩ : ∃ j, i = pre.length + mid.length + j := ⟨i - (pre.length + mid.length), by omega⟩
        exact inrow j (by omega) (by simp; omega) hq.1)
      rw [hl4] at ih
      have e5 : pre.length + mid.length + 1 + (r0 ++ crlf).length = pre.length + mid.length + (46 :: r0).length + 2 := by simp [crlf]; omega
      rw [e5] at ih
      have em : ms1 (pre.length + mid.length) ((46 :: r0) :: rs) = (pre.length + mid.length, pre.length + mid.length + 1) :: ms1 (pre.length + mid.length + (46 :: r0).length + 2) rs := by
        show (if _ then _ else _) = _
        rw [if_pos (by simp)]
      rw [em]
      refine ⟨.some ⟨m', _, by omega, r, en⟩ (by omega) ih.1, ?_⟩
      rw [pieces_cons _ _ _ _ _ _ (Nat.le_add_right _ _), ih.2, e, take_mid _ _ _ _ (by omega)]
      have : (Str.ofString "..").cps.toList = [46, 46] := by decide +kernel
      rw [this]
      simp [flatC, dots, crlf]
    · have e4 : T = pre ++ ((mid ++ ((c0 :: r0) ++ crlf)) ++ flatC rs) := by rw [e1]; simp
      have ih := scans1 rs pre (mid ++ ((c0 :: r0) ++ crlf)) T e4 hl (fun q hq => h q (List.mem_cons_of_mem _ hq)) (.inr (by rw [← List.append_assoc, ← List.append_assoc]; exact hlast _)) (fun i h1 h2 hq => by
        have h2' : i < pre.length + mid.length + ((c0 :: r0).length + 2) := by
          have : (mid ++ (c0 :: r0 ++ crlf)).length = mid.length + ((c0 :: r0).length + 2) := by simp [crlf]
          omega
        by_cases h3 : i < pre.length + mid.length
        · exact hm i h1 h3 hq
        · obtain ⟨j, rfl⟩ : ∃ j, i = pre.length + mid.length + j := ⟨i - (pre.length + mid.length), by omega⟩
          by_cases h5 : j = 0
          · subst h5
            have := hat 0
            have h6 := hq.2
            rw [this] at h6
            exact hc (by simpa using h6)
          · exact inrow j (by omega) (by omega) hq.1)
      have e5 : pre.length + (mid ++ ((c0 :: r0) ++ crlf)).length = pre.length + mid.length + (c0 :: r0).length + 2 := by simp [crlf]; omega
      rw [e5] at ih
      have em : ms1 (pre.length + mid.length) ((c0 :: r0) :: rs) = ms1 (pre.length + mid.length + (c0 :: r0).length + 2) rs := by
        show (if _ then _ else _) = _
        rw [if_neg (by simpa using hc)]
      rw [em]
      refine ⟨ih.1, ?_⟩
      rw [ih.2]
      have : dots (c0 :: r0) = c0 :: r0 := by unfold dots; rw [if_neg (by simpa using hc)]
      simp [flatC, this]
end Mine
end
-- part Quote
namespace Mine
theorem calm_Quote (M : PySem.Model) (A : PySem.Around) (e : PySem.Env) (Q : PySem.Flow → PySem.Shared → Prop) (E : PySem.Value → PySem.Shared → Prop) (s : PySem.Shared) (h : PySem.wpAny M A (PySem.execs [] e) Q E s) : PySem.wpAny M A (PySem.execs [] e) Q E s := by
  w_top off
  first | (walk1; fail) | exact h
end Mine
section
open PySem PySem.W PyProof.Rows PySem.Spec PySem.Calls
set_option linter.unusedVariables false
set_option linter.unusedSimpArgs false
set_option maxRecDepth 100000
set_option maxHeartbeats 8000000
namespace Mine
theorem lk36 (P : Params) : (Mine.hd.heap_1 P).lookup 36 = some { cls := .type "re.Pattern", data := .fields #[.str ⟨#[40, 63, 109, 41, 94, 92, 46]⟩ 285, .int 40 298, .int 0 0, .none, .none, .ref 35, .int 0 0] } := by rfl
theorem lk35 (P : Params) : (Mine.hd.heap_1 P).lookup 35 = some { cls := .type "tuple", data := .seq #[.int 14 0, .int 4 0, .int 0 0, .int 1 0, .int 1 0, .int 6 0, .int 1 0, .int 16 0, .int 46 0, .int 1 0] } := by rfl
theorem lk41 (P : Params) : (Mine.hd.heap_1 P).lookup 41 = some { cls := .type "re.Pattern", data := .fields #[.str ⟨#[40, 63, 58, 92, 114, 92, 110, 124, 92, 110, 124, 92, 114, 40, 63, 33, 92, 110, 41, 41]⟩ 301, .int 32 340, .int 0 0, .none, .none, .ref 40, .int 0 0] } := by rfl
theorem lk40 (P : Params) : (Mine.hd.heap_1 P).lookup 40 = some { cls := .type "tuple", data := .seq #[.int 14 0, .int 9 0, .int 4 0, .int 1 0, .int 2 0, .int 16 0, .int 10 0, .int 16 0, .int 13 0, .int 0 0, .int 7 0, .int 7 0, .int 16 0, .int 13 0, .int 16 0, .int 10 0, .int 15 0, .int 18 0, .int 5 0, .int 16 0, .int 10 0, .int 15 0, .int 13 0, .int 11 0, .int 16 0, .int 13 0, .int 5 0, .int 5 0, .int 0 0, .int 16 0, .int 10 0, .int 1 0, .int 15 0, .int 2 0, .int 0 0, .int 1 0] } := by rfl
theorem pat1 {P : Params} {h : Heap} (X : (Mine.hd.heap_1 P).In h) : Pat h 36 35 code1 := ⟨⟨_, _, _, _, _, X 36 _ (lk36 P), rfl, rfl, rfl⟩, ⟨_, _, _, X 35 _ (lk35 P), rfl, by decide +kernel⟩⟩
theorem pat2 {P : Params} {h : Heap} (X : (Mine.hd.heap_1 P).In h) : Pat h 41 40 code2 := ⟨⟨_, _, _, _, _, X 41 _ (lk41 P), rfl, rfl, rfl⟩, ⟨_, _, _, X 40 _ (lk40 P), rfl, by decide +kernel⟩⟩
theorem Pat.method {M : Model} {A : Around} {E : Value → Shared → Prop} {s : Shared} {pat tup : Addr} {code : Array Nat} {pl : Sem Bool} {Q : Value × List Value → Shared → Prop} (P : Pat s.heap pat tup code) (h : Q (.builtin "re.Pattern.sub", [.ref pat]) s) :
    wpAny M A (getMethod (.ref pat) "sub" pl) Q E s := by
  obtain ⟨op, v0, v1, v3, v4, ep, hc, hd, hf⟩ := id P.pat
  exact getMethod_builtin ⟨op, ep, hc⟩ plainAttrs_pat slot_pat_sub type_pat_sub (fun a e => by cases e; exact ⟨op, ep, hd⟩) h
theorem newsNil {h₀ h : Heap} {L : Addr} {m : Str → Option Value} (_F : Fr h₀ L h m) : News h₀ L h [] := News.nil
section
variable {prog : Program} {w : World} {A : Around} {E : Value → Shared → Prop} {s : Shared} {Q : Value → Shared → Prop}
theorem ms2_len : ∀ (rs : List (Row × Sep)) (n : Nat), (ms2 n rs).length = rs.length
  | [], _ => rfl
  | _ :: r, _ => by show (_ :: _).length = _; rw [List.length_cons, ms2_len r, List.length_cons]
theorem ms1_len : ∀ (rs : List Row) (n : Nat), (ms1 n rs).length ≤ rs.length
  | [], _ => Nat.le_refl _
  | q :: r, n => by
    unfold ms1
    have := ms1_len r (n + q.length + 2)
    split <;> simp only [List.length_cons] <;> omega
theorem flat2_len : ∀ rs : List (Row × Sep), (rs.flatMap fun q => q.1 ++ crlf).length ≤ 3 * (flat2 rs).length ∧ rs.length ≤ (flat2 rs).length
  | [] => ⟨Nat.zero_le _, Nat.zero_le _⟩
  | q :: r => by
    have h := flat2_len r
    have h1 : 0 < q.2.signs.length := by cases q.2 <;> decide
    have e1 : (flat2 (q :: r)).length = q.1.length + q.2.signs.length + (flat2 r).length := by simp [flat2]; omega
    have e2 : ((q :: r).flatMap fun q => q.1 ++ crlf).length = q.1.length + 2 + (r.flatMap fun q => q.1 ++ crlf).length := by simp [crlf]; omega
    rw [e1, e2, List.length_cons]
    omega
theorem flatC_len : ∀ rs : List Row, (flatC (rs.map dots)).length ≤ 2 * (flatC rs).length ∧ rs.length ≤ (flatC rs).length
  | [] => ⟨Nat.zero_le _, Nat.zero_le _⟩
  | q :: r => by
    have h := flatC_len r
    have e1 : (flatC (q :: r)).length = q.length + 2 + (flatC r).length := by simp [flatC, crlf]; omega
    have e2 : (flatC ((q :: r).map dots)).length = (dots q).length + 2 + (flatC (r.map dots)).length := by simp [flatC, crlf]; omega
    have e3 : (dots q).length ≤ q.length + 1 := by unfold dots; split <;> simp
    rw [e1, e2, List.length_cons]
    omega
theorem call_crlf {x : Str} {u rt : Tok} {rs : List (Row × Sep)} (P : Pat s.heap 41 40 code2) (hx : x.cps.toList = flat2 rs) (hl : (flat2 rs).length ≤ 10000) (hok : ∀ q ∈ rs, Row.ok q.1)
    (hQ : ∀ y t' h' tk', y.cps.toList = flatC (rs.map (·.1)) → (∀ b o, s.heap.get? b = some o → h'.get? b = some o) → Q (.str y t') { s with heap := h', toks := tk' }) :
    wpAny (model prog w) A (call (.builtin "re.Pattern.sub") [.ref 41, .str (Str.ofString "\x0d\n") rt, .str x u]) Q E s := by
  have ex := PySem.StrLaws.mk_of_toList hx
  subst ex
  have hc : (Str.ofString "\x0d\n").cps.toList = crlf := by decide +kernel
  have hf : flatP (pieces ⟨(flat2 rs).toArray⟩ (Str.ofString "\x0d\n") 0 (ms2 0 rs)) = rs.flatMap fun q => q.1 ++ crlf := by
    have := flat_ms2 (Str.ofString "\x0d\n") rs [] (flat2 rs) rfl
    rw [hc] at this
    exact this
  have hb := flat2_len rs
  refine sub_call P (by simpa using (by omega : (flat2 rs).length ≤ 100000)) (by decide +kernel) (by decide +kernel) (ms := ms2 0 rs) (scans2 rs [] _ rfl (by omega) hok) (by rw [ms2_len]; omega) (joinOk_flat (by rw [hf]; omega)) fun t' h' tk' hk => ?_
  refine hQ _ t' h' tk' ?_ hk
  rw [join_flat, hf]
  simp [flatC, List.flatMap_map]
theorem call_dots {x : Str} {u rt : Tok} {rs : List Row} (P : Pat s.heap 36 35 code1) (hx : x.cps.toList = flatC rs) (hl : (flatC rs).length ≤ 40000) (hok : ∀ q ∈ rs, Row.ok q)
    (hQ : ∀ y t' h' tk', y.cps.toList = flatC (rs.map dots) → (∀ b o, s.heap.get? b = some o → h'.get? b = some o) → Q (.str y t') { s with heap := h', toks := tk' }) :
    wpAny (model prog w) A (call (.builtin "re.Pattern.sub") [.ref 36, .str (Str.ofString "..") rt, .str x u]) Q E s := by
  have ex := PySem.StrLaws.mk_of_toList hx
  subst ex
  have hs := scans1 rs [] [] (flatC rs) rfl (by omega) hok (.inl rfl) (fun i h1 h2 => by simp at h2)
  have hf : flatP (pieces ⟨(flatC rs).toArray⟩ (Str.ofString "..") 0 (ms1 0 rs)) = flatC (rs.map dots) := hs.2
  have hb := flatC_len rs
  have hm := ms1_len rs 0
  refine sub_call P (by simpa using (by omega : (flatC rs).length ≤ 100000)) (by decide +kernel) (by decide +kernel) (ms := ms1 0 rs) hs.1 (by omega) (joinOk_flat (by rw [hf]; omega)) fun t' h' tk' hk => ?_
  refine hQ _ t' h' tk' ?_ hk
  rw [join_flat, hf]
end

local macro_rules | `(tactic| walk_at "getMethod ref") => `(tactic| (first | (with_reducible show wpAny _ _ (getMethod (Value.ref 36) _ _) _ _ _; refine Pat.method (Pat.keeps (pat1 (by assumption)) (Fr.keep (by assumption))) ?_) | (with_reducible show wpAny _ _ (getMethod (Value.ref 41) _ _) _ _ _; refine Pat.method (Pat.keeps (pat2 (by assumption)) (Fr.keep (by assumption))) ?_)))
section
variable (w : World) (p : Program) (loose : List Str) (mean : ExcName → Option Value) (mg mb : Str → Option Value)
theorem c_quote (x : Str) (t : Tok) (rs : List (Row × Sep)) (hx : x.cps.toList = flat2 rs) (hl : (flat2 rs).length ≤ 10000) (hok : ∀ q ∈ rs, Row.ok q.1) :
    PC0 w p loose mean mg mb 48 3 40 [.str x t] (fun r => ∃ y, IsS y r ∧ y.cps.toList = flatC (rs.map fun q => dots q.1)) := by
  unfold PC0
  intro dp u gd fr s E X T hdp hun
  (refine wpAny_call ?_; k_dflt (refine' enterP (K := Mine.hd.heap_1 _) ?kX ?kT ?k6 ?k7 ?k8 ?k9 ?kB ?_ ?c2 ?c3 ?c4 ?c5; (case kX => assumption); (case kT => assumption); (case k6 => k_is); (case k7 => k_is); (case k8 => ((try simp only [Ar]); omega)); (case k9 => exact BindsTo.of_eq rfl); (case c5 => decide); (case kB => exact locs rfl); (case c2 => exact rfl); (case c3 => exact rfl); (case c4 => exact rfl); k_whole; intro _ _ _ _ _ _; (try dsimp only); (try k_fold)))
  k_steps
  (rename Fr _ _ _ _ => F₁)
  refine call_crlf ((pat2 X).keeps F₁.keep) hx hl hok fun y t₁ h₁ tk₁ hy hk₁ => ?_
  have F₂ := F₁.keeps hk₁
  have N₂ := newsNil F₂
  k_steps
  refine call_dots ((pat1 X).keeps F₂.keep) hy ?_ ?_ fun y t₂ h₂ tk₂ hy₂ hk₂ => ?_
  · have hb := flat2_len rs
    have : flatC (rs.map (·.1)) = rs.flatMap fun q => q.1 ++ crlf := by simp [flatC, List.flatMap_map]
    rw [this]; omega
  · intro q hq
    obtain ⟨a, ha, rfl⟩ := List.mem_map.mp hq
    exact hok a ha
  have F₃ := F₂.keeps hk₂
  have N₃ := newsNil F₃
  clear F₁ F₂
  k_steps
  exact End.mk F₃ ⟨y, IsS.of rfl, by rw [hy₂, List.map_map]; rfl⟩
end
end Mine
end
-- part C1d
namespace Mine
theorem calm_C1d (M : PySem.Model) (A : PySem.Around) (e : PySem.Env) (Q : PySem.Flow → PySem.Shared → Prop) (E : PySem.Value → PySem.Shared → Prop) (s : PySem.Shared) (h : PySem.wpAny M A (PySem.execs [] e) Q E s) : PySem.wpAny M A (PySem.execs [] e) Q E s := by
  w_top off
  first | (walk1; fail) | exact h
end Mine
section
open PySem
namespace Mine
noncomputable def nameT (x : Int) : Str := Txt.item (Str.ofString ".a- ") ((x.fdiv 8192).fmod 4) ++ Txt.item (Str.ofString ".a- ") ((x.fdiv 32768).fmod 4) ++ Str.ofString " "
noncomputable def g3 (s : Str) (b : Int) (mk : Str) (sp : Int) : Str := s ++ Txt.item (Str.ofString "-r") (b.fdiv 4) ++ Txt.item (Str.ofString "-w") ((b.fdiv 2).fmod 2) ++ Txt.item mk (sp.fmod 2 * 2 + b.fmod 2)
noncomputable def signsT (x : Int) : Str := g3 (g3 (g3 (Str.ofString (if x.fmod 2 = 1 then "d" else "-")) (((x.fdiv 2).fdiv 64).fmod 8) (Str.ofString "-xSs") ((x.fdiv 2).fdiv (512 * 4))) (((x.fdiv 2).fdiv 8).fmod 8) (Str.ofString "-xSs") ((x.fdiv 2).fdiv (512 * 2))) (((x.fdiv 2).fdiv 1).fmod 8) (Str.ofString "-xTt") ((x.fdiv 2).fdiv (512 * 1))

inductive Pt where
  | any | blank | notdash | dot
noncomputable def Pt.txt : Pt → Str
  | .any => Str.ofString "."
  | .blank => Str.ofString "\\ "
  | .notdash => Str.ofString "[^\\-]"
  | .dot => Str.ofString "\\."
noncomputable def Pt.takes : Pt → Str → Bool
  | .any, _ => true
  | .blank, y => y == Str.ofString " "
  | .notdash, y => (Builtin.Str.occurrences (Str.ofString "-") y 0 (Str.ofString "-").length 1).isEmpty
  | .dot, y => y == Str.ofString "."
noncomputable def shownB (x : Int) : Nat → Bool
  | 0 => x.fmod 2 == 1
  | 1 => ((x.fdiv 2).fdiv 256).fmod 2 == 1
  | 2 => ((x.fdiv 2).fdiv 128).fmod 2 == 1
  | 3 => ((x.fdiv 2).fdiv 2048).fmod 2 == 1 || ((x.fdiv 2).fdiv 64).fmod 2 == 1
  | 4 => ((x.fdiv 2).fdiv 32).fmod 2 == 1
  | 5 => ((x.fdiv 2).fdiv 16).fmod 2 == 1
  | 6 => ((x.fdiv 2).fdiv 1024).fmod 2 == 1 || ((x.fdiv 2).fdiv 8).fmod 2 == 1
  | 7 => ((x.fdiv 2).fdiv 4).fmod 2 == 1
  | 8 => ((x.fdiv 2).fdiv 2).fmod 2 == 1
  | _ => ((x.fdiv 2).fdiv 512).fmod 2 == 1 || ((x.fdiv 2).fdiv 1).fmod 2 == 1

end Mine
end
section
-- part C1b
local macro_rules | `(tactic| walk_at "binaryOp Pow int int") => `(tactic| (first | (with_reducible refine Mine.pow_l (r := 1) (by decide) ?_) | (with_reducible refine Mine.pow_l (r := 2) (by decide) ?_) | (with_reducible refine Mine.pow_l (r := 4) (by decide) ?_) | (with_reducible refine Mine.pow_l (r := 8) (by decide) ?_) | (with_reducible refine Mine.pow_l (r := 16) (by decide) ?_) | (with_reducible refine Mine.pow_l (r := 32) (by decide) ?_) | (with_reducible refine Mine.pow_l (r := 64) (by decide) ?_) | (with_reducible refine Mine.pow_l (r := 128) (by decide) ?_) | (with_reducible refine Mine.pow_l (r := 256) (by decide) ?_) | (with_reducible refine Mine.pow_l (r := 512) (by decide) ?_) | (with_reducible refine Mine.pow_l (r := 1024) (by decide) ?_) | (with_reducible refine Mine.pow_l (r := 2048) (by decide) ?_)))
local macro_rules | `(tactic| walk_at "subscriptTail") => `(tactic| ((with_reducible show PySem.wpAny _ _ (PyProof.Rows.subscriptTail _ _ (PySem.Value.str _ _) (PySem.Value.int _ _)) _ _ _); (refine PySem.W.KXi.item (by kxi_len) (Mine.idx_lo _ _) (Mine.idx_hi _ _) (by decide) ?_); intro kxiE))
namespace Mine
theorem calm_C1b (M : PySem.Model) (A : PySem.Around) (e : PySem.Env) (Q : PySem.Flow → PySem.Shared → Prop) (E : PySem.Value → PySem.Shared → Prop) (s : PySem.Shared) (h : PySem.wpAny M A (PySem.execs [] e) Q E s) : PySem.wpAny M A (PySem.execs [] e) Q E s := by
  w_top off
  first | (walk1; fail) | exact h
end Mine
section
open PySem PySem.W PyProof.Rows PySem.Spec PySem.Calls
set_option linter.unusedVariables false
set_option linter.unusedSimpArgs false
set_option maxRecDepth 100000
set_option maxHeartbeats 8000000
namespace Mine
section
variable (w : World) (p : Program) (loose : List Str) (mean : ExcName → Option Value) (mg mb : Str → Option Value)

theorem c_signs (x : Int) (t : Tok) : PC0 w p loose mean mg mb 133 3 40 [.int x t] (fun r => IsS (signsT x) r) := by
  unfold PC0
  intro dp u gd fr s E X T hdp hun
  (refine wpAny_call ?_; k_dflt (refine' enterP (K := Mine.hd.heap_1 _) ?kX ?kT ?k6 ?k7 ?k8 ?k9 ?kB ?_ ?c2 ?c3 ?c4 ?c5; (case kX => assumption); (case kT => assumption); (case k6 => k_is); (case k7 => k_is); (case k8 => ((try simp only [Ar]); omega)); (case k9 => exact BindsTo.of_eq rfl); (case c5 => decide); (case kB => exact locs rfl); (case c2 => exact rfl); (case c3 => exact rfl); (case c4 => exact rfl); k_whole; intro _ _ _ _ _ _; (try dsimp only); (try k_fold)))
  k_steps
  (all_goals (try dsimp only))
  · refine End.mk (by assumption) (IsS.of ?_)
    (rename x.fmod 2 = 1 => hb')
    unfold signsT g3
    rw [if_pos hb']
  · refine End.mk (by assumption) (IsS.of ?_)
    (rename ¬ x.fmod 2 = 1 => hb')
    unfold signsT g3
    rw [if_neg hb']


end
end Mine
end
-- part C1s
namespace Mine
theorem calm_C1s (M : PySem.Model) (A : PySem.Around) (e : PySem.Env) (Q : PySem.Flow → PySem.Shared → Prop) (E : PySem.Value → PySem.Shared → Prop) (s : PySem.Shared) (h : PySem.wpAny M A (PySem.execs [] e) Q E s) : PySem.wpAny M A (PySem.execs [] e) Q E s := by
  w_top off
  first | (walk1; fail) | exact h
end Mine
section
open PySem PySem.W PyProof.Rows PySem.Spec PySem.Calls
set_option linter.unusedVariables false
set_option linter.unusedSimpArgs false
set_option maxRecDepth 100000
set_option maxHeartbeats 8000000
namespace Mine
section
variable (w : World) (p : Program) (loose : List Str) (mean : ExcName → Option Value) (mg mb : Str → Option Value)

theorem c_name (x : Int) (t : Tok) : PC0 w p loose mean mg mb 126 3 40 [.int x t] (fun r => IsS (nameT x) r) := by
  unfold PC0
  intro dp u gd fr s E X T hdp hun
  (refine wpAny_call ?_; k_dflt (refine' enterP (K := Mine.hd.heap_1 _) ?kX ?kT ?k6 ?k7 ?k8 ?k9 ?kB ?_ ?c2 ?c3 ?c4 ?c5; (case kX => assumption); (case kT => assumption); (case k6 => k_is); (case k7 => k_is); (case k8 => ((try simp only [Ar]); omega)); (case k9 => exact BindsTo.of_eq rfl); (case c5 => decide); (case kB => exact locs rfl); (case c2 => exact rfl); (case c3 => exact rfl); (case c4 => exact rfl); k_whole; intro _ _ _ _ _ _; (try dsimp only); (try k_fold)))
  k_steps
  (all_goals (try dsimp only))
  exact End.mk (by assumption) (IsS.of rfl)


theorem c_shown0 (x : Int) (t u : Tok) : PC0 w p loose mean mg mb 152 3 40 [.int x t, .int 0 u] (fun r => IsB (shownB x 0) r) := by
  unfold PC0
  intro dp u gd fr s E X T hdp hun
  (refine wpAny_call ?_; k_dflt (refine' enterP (K := Mine.hd.heap_1 _) ?kX ?kT ?k6 ?k7 ?k8 ?k9 ?kB ?_ ?c2 ?c3 ?c4 ?c5; (case kX => assumption); (case kT => assumption); (case k6 => k_is); (case k7 => k_is); (case k8 => ((try simp only [Ar]); omega)); (case k9 => exact BindsTo.of_eq rfl); (case c5 => decide); (case kB => exact locs rfl); (case c2 => exact rfl); (case c3 => exact rfl); (case c4 => exact rfl); k_whole; intro _ _ _ _ _ _; (try dsimp only); (try k_fold)))
  k_steps
  (all_goals (try dsimp only))
  exact End.mk (by assumption) (IsB.of rfl)


theorem c_shown1 (x : Int) (t u : Tok) : PC0 w p loose mean mg mb 152 3 40 [.int x t, .int 1 u] (fun r => IsB (shownB x 1) r) := by
  unfold PC0
  intro dp u gd fr s E X T hdp hun
  (refine wpAny_call ?_; k_dflt (refine' enterP (K := Mine.hd.heap_1 _) ?kX ?kT ?k6 ?k7 ?k8 ?k9 ?kB ?_ ?c2 ?c3 ?c4 ?c5; (case kX => assumption); (case kT => assumption); (case k6 => k_is); (case k7 => k_is); (case k8 => ((try simp only [Ar]); omega)); (case k9 => exact BindsTo.of_eq rfl); (case c5 => decide); (case kB => exact locs rfl); (case c2 => exact rfl); (case c3 => exact rfl); (case c4 => exact rfl); k_whole; intro _ _ _ _ _ _; (try dsimp only); (try k_fold)))
  k_steps
  (all_goals (try dsimp only))
  exact End.mk (by assumption) (IsB.of rfl)


theorem c_shown2 (x : Int) (t u : Tok) : PC0 w p loose mean mg mb 152 3 40 [.int x t, .int 2 u] (fun r => IsB (shownB x 2) r) := by
  unfold PC0
  intro dp u gd fr s E X T hdp hun
  (refine wpAny_call ?_; k_dflt (refine' enterP (K := Mine.hd.heap_1 _) ?kX ?kT ?k6 ?k7 ?k8 ?k9 ?kB ?_ ?c2 ?c3 ?c4 ?c5; (case kX => assumption); (case kT => assumption); (case k6 => k_is); (case k7 => k_is); (case k8 => ((try simp only [Ar]); omega)); (case k9 => exact BindsTo.of_eq rfl); (case c5 => decide); (case kB => exact locs rfl); (case c2 => exact rfl); (case c3 => exact rfl); (case c4 => exact rfl); k_whole; intro _ _ _ _ _ _; (try dsimp only); (try k_fold)))
  k_steps
  (all_goals (try dsimp only))
  exact End.mk (by assumption) (IsB.of rfl)


theorem c_shown3 (x : Int) (t u : Tok) : PC0 w p loose mean mg mb 152 3 40 [.int x t, .int 3 u] (fun r => IsB (shownB x 3) r) := by
  unfold PC0
  intro dp u gd fr s E X T hdp hun
  (refine wpAny_call ?_; k_dflt (refine' enterP (K := Mine.hd.heap_1 _) ?kX ?kT ?k6 ?k7 ?k8 ?k9 ?kB ?_ ?c2 ?c3 ?c4 ?c5; (case kX => assumption); (case kT => assumption); (case k6 => k_is); (case k7 => k_is); (case k8 => ((try simp only [Ar]); omega)); (case k9 => exact BindsTo.of_eq rfl); (case c5 => decide); (case kB => exact locs rfl); (case c2 => exact rfl); (case c3 => exact rfl); (case c4 => exact rfl); k_whole; intro _ _ _ _ _ _; (try dsimp only); (try k_fold)))
  k_steps
  (all_goals (try dsimp only))
  all_goals (refine End.mk (by assumption) (IsB.of ?_); simp_all [shownB])


theorem c_shown4 (x : Int) (t u : Tok) : PC0 w p loose mean mg mb 152 3 40 [.int x t, .int 4 u] (fun r => IsB (shownB x 4) r) := by
  unfold PC0
  intro dp u gd fr s E X T hdp hun
  (refine wpAny_call ?_; k_dflt (refine' enterP (K := Mine.hd.heap_1 _) ?kX ?kT ?k6 ?k7 ?k8 ?k9 ?kB ?_ ?c2 ?c3 ?c4 ?c5; (case kX => assumption); (case kT => assumption); (case k6 => k_is); (case k7 => k_is); (case k8 => ((try simp only [Ar]); omega)); (case k9 => exact BindsTo.of_eq rfl); (case c5 => decide); (case kB => exact locs rfl); (case c2 => exact rfl); (case c3 => exact rfl); (case c4 => exact rfl); k_whole; intro _ _ _ _ _ _; (try dsimp only); (try k_fold)))
  k_steps
  (all_goals (try dsimp only))
  exact End.mk (by assumption) (IsB.of rfl)


theorem c_shown5 (x : Int) (t u : Tok) : PC0 w p loose mean mg mb 152 3 40 [.int x t, .int 5 u] (fun r => IsB (shownB x 5) r) := by
  unfold PC0
  intro dp u gd fr s E X T hdp hun
  (refine wpAny_call ?_; k_dflt (refine' enterP (K := Mine.hd.heap_1 _) ?kX ?kT ?k6 ?k7 ?k8 ?k9 ?kB ?_ ?c2 ?c3 ?c4 ?c5; (case kX => assumption); (case kT => assumption); (case k6 => k_is); (case k7 => k_is); (case k8 => ((try simp only [Ar]); omega)); (case k9 => exact BindsTo.of_eq rfl); (case c5 => decide); (case kB => exact locs rfl); (case c2 => exact rfl); (case c3 => exact rfl); (case c4 => exact rfl); k_whole; intro _ _ _ _ _ _; (try dsimp only); (try k_fold)))
  k_steps
  (all_goals (try dsimp only))
  exact End.mk (by assumption) (IsB.of rfl)


theorem c_shown6 (x : Int) (t u : Tok) : PC0 w p loose mean mg mb 152 3 40 [.int x t, .int 6 u] (fun r => IsB (shownB x 6) r) := by
  unfold PC0
  intro dp u gd fr s E X T hdp hun
  (refine wpAny_call ?_; k_dflt (refine' enterP (K := Mine.hd.heap_1 _) ?kX ?kT ?k6 ?k7 ?k8 ?k9 ?kB ?_ ?c2 ?c3 ?c4 ?c5; (case kX => assumption); (case kT => assumption); (case k6 => k_is); (case k7 => k_is); (case k8 => ((try simp only [Ar]); omega)); (case k9 => exact BindsTo.of_eq rfl); (case c5 => decide); (case kB => exact locs rfl); (case c2 => exact rfl); (case c3 => exact rfl); (case c4 => exact rfl); k_whole; intro _ _ _ _ _ _; (try dsimp only); (try k_fold)))
  k_steps
  (all_goals (try dsimp only))
  all_goals (refine End.mk (by assumption) (IsB.of ?_); simp_all [shownB])


theorem c_shown7 (x : Int) (t u : Tok) : PC0 w p loose mean mg mb 152 3 40 [.int x t, .int 7 u] (fun r => IsB (shownB x 7) r) := by
  unfold PC0
  intro dp u gd fr s E X T hdp hun
  (refine wpAny_call ?_; k_dflt (refine' enterP (K := Mine.hd.heap_1 _) ?kX ?kT ?k6 ?k7 ?k8 ?k9 ?kB ?_ ?c2 ?c3 ?c4 ?c5; (case kX => assumption); (case kT => assumption); (case k6 => k_is); (case k7 => k_is); (case k8 => ((try simp only [Ar]); omega)); (case k9 => exact BindsTo.of_eq rfl); (case c5 => decide); (case kB => exact locs rfl); (case c2 => exact rfl); (case c3 => exact rfl); (case c4 => exact rfl); k_whole; intro _ _ _ _ _ _; (try dsimp only); (try k_fold)))
  k_steps
  (all_goals (try dsimp only))
  exact End.mk (by assumption) (IsB.of rfl)


theorem c_shown8 (x : Int) (t u : Tok) : PC0 w p loose mean mg mb 152 3 40 [.int x t, .int 8 u] (fun r => IsB (shownB x 8) r) := by
  unfold PC0
  intro dp u gd fr s E X T hdp hun
  (refine wpAny_call ?_; k_dflt (refine' enterP (K := Mine.hd.heap_1 _) ?kX ?kT ?k6 ?k7 ?k8 ?k9 ?kB ?_ ?c2 ?c3 ?c4 ?c5; (case kX => assumption); (case kT => assumption); (case k6 => k_is); (case k7 => k_is); (case k8 => ((try simp only [Ar]); omega)); (case k9 => exact BindsTo.of_eq rfl); (case c5 => decide); (case kB => exact locs rfl); (case c2 => exact rfl); (case c3 => exact rfl); (case c4 => exact rfl); k_whole; intro _ _ _ _ _ _; (try dsimp only); (try k_fold)))
  k_steps
  (all_goals (try dsimp only))
  exact End.mk (by assumption) (IsB.of rfl)


theorem c_shown9 (x : Int) (t u : Tok) : PC0 w p loose mean mg mb 152 3 40 [.int x t, .int 9 u] (fun r => IsB (shownB x 9) r) := by
  unfold PC0
  intro dp u gd fr s E X T hdp hun
  (refine wpAny_call ?_; k_dflt (refine' enterP (K := Mine.hd.heap_1 _) ?kX ?kT ?k6 ?k7 ?k8 ?k9 ?kB ?_ ?c2 ?c3 ?c4 ?c5; (case kX => assumption); (case kT => assumption); (case k6 => k_is); (case k7 => k_is); (case k8 => ((try simp only [Ar]); omega)); (case k9 => exact BindsTo.of_eq rfl); (case c5 => decide); (case kB => exact locs rfl); (case c2 => exact rfl); (case c3 => exact rfl); (case c4 => exact rfl); k_whole; intro _ _ _ _ _ _; (try dsimp only); (try k_fold)))
  k_steps
  (all_goals (try dsimp only))
  all_goals (refine End.mk (by assumption) (IsB.of ?_); simp_all [shownB])


end
end Mine
end
-- part C1t
namespace Mine
theorem calm_C1t (M : PySem.Model) (A : PySem.Around) (e : PySem.Env) (Q : PySem.Flow → PySem.Shared → Prop) (E : PySem.Value → PySem.Shared → Prop) (s : PySem.Shared) (h : PySem.wpAny M A (PySem.execs [] e) Q E s) : PySem.wpAny M A (PySem.execs [] e) Q E s := by
  w_top off
  first | (walk1; fail) | exact h
end Mine
section
open PySem PySem.W PyProof.Rows PySem.Spec PySem.Calls
set_option linter.unusedVariables false
set_option linter.unusedSimpArgs false
set_option maxRecDepth 100000
set_option maxHeartbeats 8000000
namespace Mine
section
variable (w : World) (p : Program) (loose : List Str) (mean : ExcName → Option Value) (mg mb : Str → Option Value)

theorem c_takes0 (y : Str) (hy : y.length ≤ 16) (t u : Tok) : PC0 w p loose mean mg mb 140 3 40 [.str (Str.ofString ".") t, .str y u] (fun r => IsB (Pt.any.takes y) r) := by
  unfold PC0
  intro dp u gd fr s E X T hdp hun
  (refine wpAny_call ?_; k_dflt (refine' enterP (K := Mine.hd.heap_1 _) ?kX ?kT ?k6 ?k7 ?k8 ?k9 ?kB ?_ ?c2 ?c3 ?c4 ?c5; (case kX => assumption); (case kT => assumption); (case k6 => k_is); (case k7 => k_is); (case k8 => ((try simp only [Ar]); omega)); (case k9 => exact BindsTo.of_eq rfl); (case c5 => decide); (case kB => exact locs rfl); (case c2 => exact rfl); (case c3 => exact rfl); (case c4 => exact rfl); k_whole; intro _ _ _ _ _ _; (try dsimp only); (try k_fold)))
  k_steps
  (all_goals (try dsimp only))
  exact End.mk (by assumption) (IsB.of rfl)


theorem c_takes1 (y : Str) (hy : y.length ≤ 16) (t u : Tok) : PC0 w p loose mean mg mb 140 3 40 [.str (Str.ofString "\\ ") t, .str y u] (fun r => IsB (Pt.blank.takes y) r) := by
  unfold PC0
  intro dp u gd fr s E X T hdp hun
  (refine wpAny_call ?_; k_dflt (refine' enterP (K := Mine.hd.heap_1 _) ?kX ?kT ?k6 ?k7 ?k8 ?k9 ?kB ?_ ?c2 ?c3 ?c4 ?c5; (case kX => assumption); (case kT => assumption); (case k6 => k_is); (case k7 => k_is); (case k8 => ((try simp only [Ar]); omega)); (case k9 => exact BindsTo.of_eq rfl); (case c5 => decide); (case kB => exact locs rfl); (case c2 => exact rfl); (case c3 => exact rfl); (case c4 => exact rfl); k_whole; intro _ _ _ _ _ _; (try dsimp only); (try k_fold)))
  k_steps
  (all_goals (try dsimp only))
  refine End.mk (by assumption) (IsB.of ?_)
  rw [show Txt.slice (Str.ofString "\\ ") (some (-1)) none = Str.ofString " " from by decide +kernel]
  rfl


theorem c_takes3 (y : Str) (hy : y.length ≤ 16) (t u : Tok) : PC0 w p loose mean mg mb 140 3 40 [.str (Str.ofString "\\.") t, .str y u] (fun r => IsB (Pt.dot.takes y) r) := by
  unfold PC0
  intro dp u gd fr s E X T hdp hun
  (refine wpAny_call ?_; k_dflt (refine' enterP (K := Mine.hd.heap_1 _) ?kX ?kT ?k6 ?k7 ?k8 ?k9 ?kB ?_ ?c2 ?c3 ?c4 ?c5; (case kX => assumption); (case kT => assumption); (case k6 => k_is); (case k7 => k_is); (case k8 => ((try simp only [Ar]); omega)); (case k9 => exact BindsTo.of_eq rfl); (case c5 => decide); (case kB => exact locs rfl); (case c2 => exact rfl); (case c3 => exact rfl); (case c4 => exact rfl); k_whole; intro _ _ _ _ _ _; (try dsimp only); (try k_fold)))
  k_steps
  (all_goals (try dsimp only))
  refine End.mk (by assumption) (IsB.of ?_)
  rw [show Txt.slice (Str.ofString "\\.") (some (-1)) none = Str.ofString "." from by decide +kernel]
  rfl


end
end Mine
end
-- part C1t2
namespace Mine
theorem calm_C1t2 (M : PySem.Model) (A : PySem.Around) (e : PySem.Env) (Q : PySem.Flow → PySem.Shared → Prop) (E : PySem.Value → PySem.Shared → Prop) (s : PySem.Shared) (h : PySem.wpAny M A (PySem.execs [] e) Q E s) : PySem.wpAny M A (PySem.execs [] e) Q E s := by
  w_top off
  first | (walk1; fail) | exact h
end Mine
section
open PySem PySem.W PyProof.Rows PySem.Spec PySem.Calls
set_option linter.unusedVariables false
set_option linter.unusedSimpArgs false
set_option maxRecDepth 100000
set_option maxHeartbeats 8000000
namespace Mine
theorem enterP1 {prog : Program} {w : World} {A : Around} {s : Shared} {K : Frag} {mg mb : Str → Option Value} {p : Program} {loose : List Str} {mean : ExcName → Option Value} {R : Result → Shared → Prop} {name qual : Str} {params : Arguments} {body : List Stmt} {scope : Scope} {dV kV doc pm cdv ct oc : Value} {an od : Option Addr} {osl : Array (Option Value)} {f : Addr} {args : Args} {binds : List (Str × Value)}
    (X : K.In s.heap) (T : Top p loose mean mg mb s.heap)
    (ho : K.lookup f = some ⟨oc, od, .func (fnOf name qual params body scope dV kV doc pm an cdv ct), osl⟩) (hcd : codeIn K cdv qual = true) (hroom : A.depth < recursionLimit)
    (hbind : BindsTo s (fnOf name qual params body scope dV kV doc pm an cdv ct) args binds) (hloc : ∀ y ∈ binds, scope.names.lookup y.1 = some .local)
    (h : ∀ L' h₁ tk, s.toks + binds.length ≤ tk → Fr s.heap L' h₁ (fun y => binds.reverse.lookup y) → News s.heap L' h₁ [] →
      wpAny (model prog w) (A.deeper (envOf qual scope L' f cdv)) (execs body (envOf qual scope L' f cdv))
        (fun fl s' => R (.ok (.ret (match fl with | .ret v => v | _ => .none))) s')
        (fun e s' => wpAny (model prog w) (A.deeper (envOf qual scope L' f cdv)) (leaving (envOf qual scope L' f cdv) e) (fun _ s'' => R (.error e) s'') (fun e' s'' => R (.error e') s'') s')
        { s with heap := h₁, toks := tk })
    (hco : scope.isCoroutine = false) (hgen : scope.isGenerator = false) (hk : scope.kind = .function)
    (hcell : ∀ x ∈ scope.names, x.2 ≠ .cell) : codeAny (model prog w) A (.call (.ref f) args) R s := by
  refine codeAny_call_def (fd := fnX name qual params body scope [] dV kV doc pm an cdv ct) (body := body) (binds := binds) hroom (X _ _ ho) rfl T.nolimit (codeRec_of X hcd) rfl hbind hcell hloc (fun h₁ hns hk₁ => ?_) hco hgen hk
  exact h s.heap.objs.size h₁ _ (Nat.le_refl _) ⟨hns, hk₁, Nat.le_refl _⟩ News.nil
local macro_rules | `(tactic| walk_at "P_TK") => `(tactic| (first | assumption | omega | (dsimp only; omega) | ((have hk9 := ‹1 ≤ Shared.toks _›); dsimp only at hk9 ⊢; omega) | ((have hk9 := ‹1 ≤ Shared.toks _›); dsimp only at hk9; omega)))
local macro_rules | `(tactic| walk_at "execs nil") => `(tactic| (refine wpAny_execs_nil ?_))
local macro_rules | `(tactic| walk_at "execs cons") => `(tactic| (refine execs_tk ?htk ?_; (case htk => walk_at "P_TK")))
local macro_rules | `(tactic| walk_at "subscriptTail Name Slice str ref") => `(tactic| ((with_reducible show wpAny _ _ (subscriptTail _ (Expr.Slice (some _) (some _) none _) (Value.str _ _) (Value.ref _)) _ _ _); (with_reducible rename Fr _ _ _ _ => F'); (with_reducible rename News _ _ _ _ => N'); (refine slice_ss1 (hsz := ?hsz) (s := ⟨_, _, _, _, _⟩) ?htk F' N' ?_); (case hsz => kxi_size); (case htk => walk_at "P_TK"); intro _ _ _ htk2 _ _))
local macro_rules | `(tactic| walk_at "subscriptTail Name Slice str ref") => `(tactic| ((with_reducible show wpAny _ _ (subscriptTail _ (Expr.Slice none (some _) none _) (Value.str _ _) (Value.ref _)) _ _ _); (with_reducible rename Fr _ _ _ _ => F'); (with_reducible rename News _ _ _ _ => N'); (refine slice_ns1 (hsz := ?hsz) (s := ⟨_, _, _, _, _⟩) ?htk F' N' ?_); (case hsz => kxi_size); (case htk => walk_at "P_TK"); intro _ _ _ htk2 _ _))
section
variable (w : World) (p : Program) (loose : List Str) (mean : ExcName → Option Value) (mg mb : Str → Option Value)

theorem c_takes2 (y : Str) (hy : y.length ≤ 16) (t u : Tok) : PC0 w p loose mean mg mb 140 3 40 [.str (Str.ofString "[^\\-]") t, .str y u] (fun r => IsB (Pt.notdash.takes y) r) := by
  unfold PC0
  intro dp u gd fr s E X T hdp hun
  (refine wpAny_call ?_; k_dflt (refine' enterP1 (K := Mine.hd.heap_1 _) ?kX ?kT ?k6 ?k7 ?k8 ?k9 ?kB ?_ ?c2 ?c3 ?c4 ?c5; (case kX => assumption); (case kT => assumption); (case k6 => k_is); (case k7 => k_is); (case k8 => ((try simp only [Ar]); omega)); (case k9 => exact BindsTo.of_eq rfl); (case c5 => decide); (case kB => exact locs rfl); (case c2 => exact rfl); (case c3 => exact rfl); (case c4 => exact rfl); k_whole; intro _ _ _ _ _ _; (try dsimp only); (try k_fold)))
  (rename _ + _ ≤ _ => htk0)
  have htk : 1 ≤ _ := Nat.le_trans (Nat.le_trans (by decide : 1 ≤ 2) (Nat.le_add_left _ _)) htk0
  clear htk0
  k_steps
  rw [show Txt.slice (Str.ofString "[^\\-]") (some 2) (some (-1)) = Str.ofString "\\-" from by decide +kernel]
  refine SC.replaceW ?_ ?_ ?_ ?_ ?_ ?_ ?_
  · (refine PySem.W.neN ?_; (try dsimp only); omega)
  · (refine PySem.W.neN ?_; (try dsimp only); omega)
  · (refine PySem.W.neN ?_; (try dsimp only); omega)
  · decide
  · decide +kernel
  · decide +kernel
  intro _ _
  rw [show Txt.replace (Str.ofString "\\-") (Str.ofString "\\") (Str.ofString "") = Str.ofString "-" from by decide +kernel]
  k_steps
  (all_goals (try dsimp only))
  exact End.mk (by assumption) (IsB.of (Bool.not_not _))
end
end Mine
end
end
-- part Fm
namespace Mine
theorem calm_Fm (M : PySem.Model) (A : PySem.Around) (e : PySem.Env) (Q : PySem.Flow → PySem.Shared → Prop) (E : PySem.Value → PySem.Shared → Prop) (s : PySem.Shared) (h : PySem.wpAny M A (PySem.execs [] e) Q E s) : PySem.wpAny M A (PySem.execs [] e) Q E s := by
  w_top off
  first | (walk1; fail) | exact h
end Mine
section
open PySem PySem.W PyProof.Rows PySem.Spec PySem.Calls
set_option linter.unusedVariables false
set_option linter.unusedSimpArgs false
set_option maxRecDepth 100000
set_option maxHeartbeats 8000000
namespace Mine
noncomputable def tbl : Nat → List (Addr × Int × Str)
  | 0 => [(80, 40960, ⟨#[108]⟩), (81, 49152, ⟨#[115]⟩), (82, 32768, ⟨#[45]⟩), (83, 24576, ⟨#[98]⟩), (84, 16384, ⟨#[100]⟩), (85, 8192, ⟨#[99]⟩), (86, 4096, ⟨#[112]⟩)]
  | 1 => [(88, 256, ⟨#[114]⟩)]
  | 2 => [(90, 128, ⟨#[119]⟩)]
  | 3 => [(92, 2112, ⟨#[115]⟩), (93, 2048, ⟨#[83]⟩), (94, 64, ⟨#[120]⟩)]
  | 4 => [(96, 32, ⟨#[114]⟩)]
  | 5 => [(98, 16, ⟨#[119]⟩)]
  | 6 => [(100, 1032, ⟨#[115]⟩), (101, 1024, ⟨#[83]⟩), (102, 8, ⟨#[120]⟩)]
  | 7 => [(104, 4, ⟨#[114]⟩)]
  | 8 => [(106, 2, ⟨#[119]⟩)]
  | 9 => [(108, 513, ⟨#[116]⟩), (109, 512, ⟨#[84]⟩), (110, 1, ⟨#[120]⟩)]
  | _ => []
noncomputable def tad : Nat → Addr
  | 0 => 87
  | 1 => 89
  | 2 => 91
  | 3 => 95
  | 4 => 97
  | 5 => 99
  | 6 => 103
  | 7 => 105
  | 8 => 107
  | 9 => 111
  | _ => 0
theorem fm80 {P : Params} {h : Heap} (X : (Mine.hd.heap_1 P).In h) : ∃ t u, h.IsTuple 80 #[.int 40960 t, .str ⟨#[108]⟩ u] := ⟨584, 612, _, X 80 _ rfl, rfl, _, rfl⟩
theorem fm81 {P : Params} {h : Heap} (X : (Mine.hd.heap_1 P).In h) : ∃ t u, h.IsTuple 81 #[.int 49152 t, .str ⟨#[115]⟩ u] := ⟨586, 613, _, X 81 _ rfl, rfl, _, rfl⟩
theorem fm82 {P : Params} {h : Heap} (X : (Mine.hd.heap_1 P).In h) : ∃ t u, h.IsTuple 82 #[.int 32768 t, .str ⟨#[45]⟩ u] := ⟨580, 614, _, X 82 _ rfl, rfl, _, rfl⟩
theorem fm83 {P : Params} {h : Heap} (X : (Mine.hd.heap_1 P).In h) : ∃ t u, h.IsTuple 83 #[.int 24576 t, .str ⟨#[98]⟩ u] := ⟨578, 615, _, X 83 _ rfl, rfl, _, rfl⟩
theorem fm84 {P : Params} {h : Heap} (X : (Mine.hd.heap_1 P).In h) : ∃ t u, h.IsTuple 84 #[.int 16384 t, .str ⟨#[100]⟩ u] := ⟨574, 616, _, X 84 _ rfl, rfl, _, rfl⟩
theorem fm85 {P : Params} {h : Heap} (X : (Mine.hd.heap_1 P).In h) : ∃ t u, h.IsTuple 85 #[.int 8192 t, .str ⟨#[99]⟩ u] := ⟨576, 617, _, X 85 _ rfl, rfl, _, rfl⟩
theorem fm86 {P : Params} {h : Heap} (X : (Mine.hd.heap_1 P).In h) : ∃ t u, h.IsTuple 86 #[.int 4096 t, .str ⟨#[112]⟩ u] := ⟨582, 618, _, X 86 _ rfl, rfl, _, rfl⟩
theorem fm87 {P : Params} {h : Heap} (X : (Mine.hd.heap_1 P).In h) : h.IsTuple 87 #[.ref 80, .ref 81, .ref 82, .ref 83, .ref 84, .ref 85, .ref 86] := ⟨_, X 87 _ rfl, rfl, _, rfl⟩
theorem fm88 {P : Params} {h : Heap} (X : (Mine.hd.heap_1 P).In h) : ∃ t u, h.IsTuple 88 #[.int 256 t, .str ⟨#[114]⟩ u] := ⟨594, 619, _, X 88 _ rfl, rfl, _, rfl⟩
theorem fm89 {P : Params} {h : Heap} (X : (Mine.hd.heap_1 P).In h) : h.IsTuple 89 #[.ref 88] := ⟨_, X 89 _ rfl, rfl, _, rfl⟩
theorem fm90 {P : Params} {h : Heap} (X : (Mine.hd.heap_1 P).In h) : ∃ t u, h.IsTuple 90 #[.int 128 t, .str ⟨#[119]⟩ u] := ⟨596, 620, _, X 90 _ rfl, rfl, _, rfl⟩
theorem fm91 {P : Params} {h : Heap} (X : (Mine.hd.heap_1 P).In h) : h.IsTuple 91 #[.ref 90] := ⟨_, X 91 _ rfl, rfl, _, rfl⟩
theorem fm92 {P : Params} {h : Heap} (X : (Mine.hd.heap_1 P).In h) : ∃ t u, h.IsTuple 92 #[.int 2112 t, .str ⟨#[115]⟩ u] := ⟨621, 622, _, X 92 _ rfl, rfl, _, rfl⟩
theorem fm93 {P : Params} {h : Heap} (X : (Mine.hd.heap_1 P).In h) : ∃ t u, h.IsTuple 93 #[.int 2048 t, .str ⟨#[83]⟩ u] := ⟨588, 623, _, X 93 _ rfl, rfl, _, rfl⟩
theorem fm94 {P : Params} {h : Heap} (X : (Mine.hd.heap_1 P).In h) : ∃ t u, h.IsTuple 94 #[.int 64 t, .str ⟨#[120]⟩ u] := ⟨598, 624, _, X 94 _ rfl, rfl, _, rfl⟩
theorem fm95 {P : Params} {h : Heap} (X : (Mine.hd.heap_1 P).In h) : h.IsTuple 95 #[.ref 92, .ref 93, .ref 94] := ⟨_, X 95 _ rfl, rfl, _, rfl⟩
theorem fm96 {P : Params} {h : Heap} (X : (Mine.hd.heap_1 P).In h) : ∃ t u, h.IsTuple 96 #[.int 32 t, .str ⟨#[114]⟩ u] := ⟨600, 625, _, X 96 _ rfl, rfl, _, rfl⟩
theorem fm97 {P : Params} {h : Heap} (X : (Mine.hd.heap_1 P).In h) : h.IsTuple 97 #[.ref 96] := ⟨_, X 97 _ rfl, rfl, _, rfl⟩
theorem fm98 {P : Params} {h : Heap} (X : (Mine.hd.heap_1 P).In h) : ∃ t u, h.IsTuple 98 #[.int 16 t, .str ⟨#[119]⟩ u] := ⟨602, 626, _, X 98 _ rfl, rfl, _, rfl⟩
theorem fm99 {P : Params} {h : Heap} (X : (Mine.hd.heap_1 P).In h) : h.IsTuple 99 #[.ref 98] := ⟨_, X 99 _ rfl, rfl, _, rfl⟩
theorem fm100 {P : Params} {h : Heap} (X : (Mine.hd.heap_1 P).In h) : ∃ t u, h.IsTuple 100 #[.int 1032 t, .str ⟨#[115]⟩ u] := ⟨627, 628, _, X 100 _ rfl, rfl, _, rfl⟩
theorem fm101 {P : Params} {h : Heap} (X : (Mine.hd.heap_1 P).In h) : ∃ t u, h.IsTuple 101 #[.int 1024 t, .str ⟨#[83]⟩ u] := ⟨590, 629, _, X 101 _ rfl, rfl, _, rfl⟩
theorem fm102 {P : Params} {h : Heap} (X : (Mine.hd.heap_1 P).In h) : ∃ t u, h.IsTuple 102 #[.int 8 t, .str ⟨#[120]⟩ u] := ⟨604, 630, _, X 102 _ rfl, rfl, _, rfl⟩
theorem fm103 {P : Params} {h : Heap} (X : (Mine.hd.heap_1 P).In h) : h.IsTuple 103 #[.ref 100, .ref 101, .ref 102] := ⟨_, X 103 _ rfl, rfl, _, rfl⟩
theorem fm104 {P : Params} {h : Heap} (X : (Mine.hd.heap_1 P).In h) : ∃ t u, h.IsTuple 104 #[.int 4 t, .str ⟨#[114]⟩ u] := ⟨606, 631, _, X 104 _ rfl, rfl, _, rfl⟩
theorem fm105 {P : Params} {h : Heap} (X : (Mine.hd.heap_1 P).In h) : h.IsTuple 105 #[.ref 104] := ⟨_, X 105 _ rfl, rfl, _, rfl⟩
theorem fm106 {P : Params} {h : Heap} (X : (Mine.hd.heap_1 P).In h) : ∃ t u, h.IsTuple 106 #[.int 2 t, .str ⟨#[119]⟩ u] := ⟨608, 632, _, X 106 _ rfl, rfl, _, rfl⟩
theorem fm107 {P : Params} {h : Heap} (X : (Mine.hd.heap_1 P).In h) : h.IsTuple 107 #[.ref 106] := ⟨_, X 107 _ rfl, rfl, _, rfl⟩
theorem fm108 {P : Params} {h : Heap} (X : (Mine.hd.heap_1 P).In h) : ∃ t u, h.IsTuple 108 #[.int 513 t, .str ⟨#[116]⟩ u] := ⟨633, 634, _, X 108 _ rfl, rfl, _, rfl⟩
theorem fm109 {P : Params} {h : Heap} (X : (Mine.hd.heap_1 P).In h) : ∃ t u, h.IsTuple 109 #[.int 512 t, .str ⟨#[84]⟩ u] := ⟨592, 635, _, X 109 _ rfl, rfl, _, rfl⟩
theorem fm110 {P : Params} {h : Heap} (X : (Mine.hd.heap_1 P).In h) : ∃ t u, h.IsTuple 110 #[.int 1 t, .str ⟨#[120]⟩ u] := ⟨610, 636, _, X 110 _ rfl, rfl, _, rfl⟩
theorem fm111 {P : Params} {h : Heap} (X : (Mine.hd.heap_1 P).In h) : h.IsTuple 111 #[.ref 108, .ref 109, .ref 110] := ⟨_, X 111 _ rfl, rfl, _, rfl⟩
theorem fm112 {P : Params} {h : Heap} (X : (Mine.hd.heap_1 P).In h) : h.IsTuple 112 #[.ref 87, .ref 89, .ref 91, .ref 95, .ref 97, .ref 99, .ref 103, .ref 105, .ref 107, .ref 111] := ⟨_, X 112 _ rfl, rfl, _, rfl⟩
theorem fmTab {P : Params} {h : Heap} (X : (Mine.hd.heap_1 P).In h) : ∀ i, i < 10 → h.IsTuple (tad i) ((tbl i).map fun e => Value.ref e.1).toArray ∧ ∀ e ∈ tbl i, ∃ t u, h.IsTuple e.1 #[.int e.2.1 t, .str e.2.2 u] := by
  intro i hi
  match i, hi with
  | 0, _ =>
    refine ⟨fm87 X, fun e he => ?_⟩
    simp only [tbl, List.mem_cons, List.not_mem_nil, or_false] at he
    rcases he with rfl | rfl | rfl | rfl | rfl | rfl | rfl
    · exact fm80 X
    · exact fm81 X
    · exact fm82 X
    · exact fm83 X
    · exact fm84 X
    · exact fm85 X
    · exact fm86 X
  | 1, _ =>
    refine ⟨fm89 X, fun e he => ?_⟩
    simp only [tbl, List.mem_cons, List.not_mem_nil, or_false] at he
    subst he
    exact fm88 X
  | 2, _ =>
    refine ⟨fm91 X, fun e he => ?_⟩
    simp only [tbl, List.mem_cons, List.not_mem_nil, or_false] at he
    subst he
    exact fm90 X
  | 3, _ =>
    refine ⟨fm95 X, fun e he => ?_⟩
    simp only [tbl, List.mem_cons, List.not_mem_nil, or_false] at he
    rcases he with rfl | rfl | rfl
    · exact fm92 X
    · exact fm93 X
    · exact fm94 X
  | 4, _ =>
    refine ⟨fm97 X, fun e he => ?_⟩
    simp only [tbl, List.mem_cons, List.not_mem_nil, or_false] at he
    subst he
    exact fm96 X
  | 5, _ =>
    refine ⟨fm99 X, fun e he => ?_⟩
    simp only [tbl, List.mem_cons, List.not_mem_nil, or_false] at he
    subst he
    exact fm98 X
  | 6, _ =>
    refine ⟨fm103 X, fun e he => ?_⟩
    simp only [tbl, List.mem_cons, List.not_mem_nil, or_false] at he
    rcases he with rfl | rfl | rfl
    · exact fm100 X
    · exact fm101 X
    · exact fm102 X
  | 7, _ =>
    refine ⟨fm105 X, fun e he => ?_⟩
    simp only [tbl, List.mem_cons, List.not_mem_nil, or_false] at he
    subst he
    exact fm104 X
  | 8, _ =>
    refine ⟨fm107 X, fun e he => ?_⟩
    simp only [tbl, List.mem_cons, List.not_mem_nil, or_false] at he
    subst he
    exact fm106 X
  | 9, _ =>
    refine ⟨fm111 X, fun e he => ?_⟩
    simp only [tbl, List.mem_cons, List.not_mem_nil, or_false] at he
    rcases he with rfl | rfl | rfl
    · exact fm108 X
    · exact fm109 X
    · exact fm110 X

noncomputable def hitB (i : Nat) (x bit : Int) : Bool := if i = 0 then decide (Builtin.bitAnd x 61440 = bit) else decide (Builtin.bitAnd x bit = bit)
noncomputable def pick (i : Nat) (x : Int) : List (Addr × Int × Str) → Str
  | [] => if i = 0 then Str.ofString "?" else Str.ofString "-"
  | e :: r => if hitB i x e.2.1 then e.2.2 else pick i x r
theorem pick_len (i : Nat) (x : Int) : ∀ es : List (Addr × Int × Str), (∀ e ∈ es, e.2.2.length ≤ 1) → (pick i x es).length ≤ 1
  | [], _ => by unfold pick; split <;> decide
  | e :: r, h => by
    unfold pick
    split
    · exact h e (List.mem_cons_self ..)
    · exact pick_len i x r fun e' he => h e' (List.mem_cons_of_mem _ he)
noncomputable def modeT (x : Int) : Str := Txt.join (Str.ofString "") [pick 0 x (tbl 0), pick 1 x (tbl 1), pick 2 x (tbl 2), pick 3 x (tbl 3), pick 4 x (tbl 4), pick 5 x (tbl 5), pick 6 x (tbl 6), pick 7 x (tbl 7), pick 8 x (tbl 8), pick 9 x (tbl 9)]
noncomputable def Perm (x : Int) : Nat → List Value → Prop
  | 0, vs => vs = []
  | n + 1, vs => ∃ r t, Perm x n r ∧ vs = r ++ [.str (pick n x (tbl n)) t]
theorem Perm.length {x : Int} : ∀ {n : Nat} {vs : List Value}, Perm x n vs → vs.length = n
  | 0, vs, h => by rw [show vs = [] from h]; rfl
  | n + 1, vs, ⟨r, t, h, e⟩ => by rw [e, List.length_append, Perm.length h]; rfl
theorem Perm.app {x : Int} {i : Nat} {vs : List Value} {c : Str} {t : Tok} (hp : Perm x i vs) (e : c = pick i x (tbl i)) : Perm x (i + 1) (vs ++ [.str c t]) := ⟨vs, t, hp, by rw [e]⟩
theorem mform {m : Str → Option Value} {a b : Str} {va vb : Value} (h1 : m a = some va) (h2 : m b = some vb) : m = fun y => if y = a then some va else if y = b then some vb else m y := by
  funext y
  by_cases ha : y = a
  · rw [if_pos ha, ha, h1]
  · rw [if_neg ha]
    by_cases hb : y = b
    · rw [if_pos hb, hb, h2]
    · rw [if_neg hb]
theorem mform3 {m : Str → Option Value} {a b c : Str} {va vb vc : Value} (h1 : m a = some va) (h2 : m b = some vb) (h3 : m c = some vc) : m = fun y => if y = a then some va else if y = b then some vb else if y = c then some vc else m y := by
  funext y
  by_cases ha : y = a
  · rw [if_pos ha, ha, h1]
  · rw [if_neg ha]
    by_cases hb : y = b
    · rw [if_pos hb, hb, h2]
    · rw [if_neg hb]
      by_cases hc : y = c
      · rw [if_pos hc, hc, h3]
      · rw [if_neg hc]
theorem tad_get : ∀ i, i < 10 → ∀ {v : Value}, (#[.ref 87, .ref 89, .ref 91, .ref 95, .ref 97, .ref 99, .ref 103, .ref 105, .ref 107, .ref 111] : Array Value)[i]? = some v → v = .ref (tad i) := by
  intro i hi v hv
  match i, hi with
  | 0, _ => exact (Option.some.inj hv).symm
  | 1, _ => exact (Option.some.inj hv).symm
  | 2, _ => exact (Option.some.inj hv).symm
  | 3, _ => exact (Option.some.inj hv).symm
  | 4, _ => exact (Option.some.inj hv).symm
  | 5, _ => exact (Option.some.inj hv).symm
  | 6, _ => exact (Option.some.inj hv).symm
  | 7, _ => exact (Option.some.inj hv).symm
  | 8, _ => exact (Option.some.inj hv).symm
  | 9, _ => exact (Option.some.inj hv).symm
theorem drop_of {α : Type} {l : List α} {j : Nat} {e : α} (h : l[j]? = some e) : l.drop j = e :: l.drop (j + 1) := by
  obtain ⟨hlt, he⟩ := List.getElem?_eq_some_iff.mp h
  rw [List.drop_eq_getElem_cons hlt, he]
theorem sub5 {a b c d q : Addr × Obj} (h : q ∈ [a, c, d]) : q ∈ [a, b, c, d] := by
  simp only [List.mem_cons, List.not_mem_nil, or_false] at h ⊢
  rcases h with h | h | h
  · exact .inl h
  · exact .inr (.inr (.inl h))
  · exact .inr (.inr (.inr h))
theorem tbl_get {es : List (Addr × Int × Str)} {j : Nat} {v : Value} (h : (es.map fun e => Value.ref e.1).toArray[j]? = some v) : ∃ e, es[j]? = some e ∧ v = .ref e.1 := by
  rw [List.getElem?_toArray, List.getElem?_map] at h
  cases he : es[j]? with
  | none => rw [he] at h; cases h
  | some e => rw [he] at h; exact ⟨e, rfl, (Option.some.inj h).symm⟩
local macro_rules | `(tactic| walk_at "exec For Tuple Call cons nil") => `(tactic| (k_here; (rename Fr _ _ _ _ => lF'); (with_unfolding_all refine' For_F lF' ?_); k_whole))
local macro_rules | `(tactic| walk_at "exec For Tuple Name cons cons") => `(tactic| (k_here; (rename Fr _ _ _ _ => lF'); (with_unfolding_all refine' For_F lF' ?_); k_whole))
section
variable (w : World) (p : Program) (loose : List Str) (mean : ExcName → Option Value) (mg mb : Str → Option Value)
theorem c_ifmt (x : Int) (t : Tok) : PC0 w p loose mean mg mb 79 3 40 [.int x t] (fun r => ∃ t, r = .int (Builtin.bitAnd x 61440) t) := by
  unfold PC0
  intro dp u gd fr s E X T hdp hun
  (refine wpAny_call ?_; k_dflt (refine' enterP (K := Mine.hd.heap_1 _) ?kX ?kT ?k6 ?k7 ?k8 ?k9 ?kB ?_ ?c2 ?c3 ?c4 ?c5; (case kX => assumption); (case kT => assumption); (case k6 => k_is); (case k7 => k_is); (case k8 => ((try simp only [Ar]); omega)); (case k9 => exact BindsTo.of_eq rfl); (case c5 => decide); (case kB => exact locs rfl); (case c2 => exact rfl); (case c3 => exact rfl); (case c4 => exact rfl); k_whole; intro _ _ _ _ _ _; (try dsimp only); (try k_fold)))
  k_steps
  (all_goals (try dsimp only))
  exact End.mk (by assumption) ⟨_, rfl⟩
theorem c_filemode (x : Int) (t : Tok) : PC0 w p loose mean mg mb 119 10 100 [.int x t] (fun r => IsS (modeT x) r) := by
  unfold PC0
  intro dp u gd fr s E X T hdp hun
  (refine wpAny_call ?_; k_dflt (refine' enterP (K := Mine.hd.heap_1 _) ?kX ?kT ?k6 ?k7 ?k8 ?k9 ?kB ?_ ?c2 ?c3 ?c4 ?c5; (case kX => assumption); (case kT => assumption); (case k6 => k_is); (case k7 => k_is); (case k8 => ((try simp only [Ar]); omega)); (case k9 => exact BindsTo.of_eq rfl); (case c5 => decide); (case kB => exact locs rfl); (case c2 => exact rfl); (case c3 => exact rfl); (case c4 => exact rfl); k_whole; intro _ _ _ _ _ _; (try dsimp only); (try k_fold)))
  k_steps
  (rename Fr _ _ _ _ => F₁)
  (rename News _ _ _ _ => N₁)
  refine call_enumT ((fm112 X).at fun o e => F₁.keep _ _ e) fun h' hE hI hk => ?_
  refine wpAny_pyIter_enum hE ?_
  have N₂ := N₁.grown hk
  refine TurnsF.acc (enumRuns (hp := _) rfl F₁ (fm112 X) hE hI hk) (F₁.keeps hk) N₂ ?_ (fun Pa i m o => ∃ (vs : List Value) (k : Nat), o = listOf vs.toArray k ∧ Perm x i vs ∧ m (Str.ofString "perm") = some (.ref Pa) ∧ m (Str.ofString "mode") = some (.int x t)) ⟨[], 0, rfl, rfl, rfl, rfl⟩ ?_ ?_
  · exact not_in_size N₁ (fun b hb => by
      rcases List.mem_cons.mp hb with rfl | hb
      · exact Nat.le_succ _
      · rw [List.mem_singleton.mp hb]; exact Nat.le_refl _)
  · clear F₁ N₁ N₂ hE hI hk
    rintro i v m₁ o₁ h₁ tk₁ its hi ⟨T, vals, rfl, ⟨t', v', hv', rfl⟩, hT⟩ ⟨vs, k, rfl, hp, hm1, hm2⟩ hil hap _ F₁ N₁
    obtain ⟨ae, oe, ai, oi, rfl⟩ := two_its hil
    have hi10 : i < 10 := hi
    have hv2 : v' = .ref (tad i) := tad_get i hi10 hv'
    subst hv2
    have hvs : vs.toArray.size ≤ 10 := by
      have h1 := Perm.length hp
      have h2 : vs.toArray.size = vs.length := List.size_toArray
      omega
    have hne1 : ¬ ae = _ := fun e => hap (e ▸ List.mem_cons_self ..)
    have hne2 : ¬ ai = _ := fun e => hap (e ▸ List.mem_cons_of_mem _ (List.mem_cons_self ..))
    have F₂ := mform hm1 hm2 ▸ F₁
    clear F₁
    have hT' : IsTup h₁ T _ := hT
    dsimp only [List.cons_append, List.nil_append] at N₁
    obtain ⟨hTa, hTe⟩ := fmTab X i hi10
    k_steps
    (rename Fr _ _ _ _ => F₁)
    (rename News _ _ _ _ => N₁)
    refine wpAny_pyIter_tuple (hTa.at fun o e => F₁.keep _ _ e) ?_
    refine TurnsF.acc (tupRuns (hp := _) rfl F₁ hTa) (F₁.push _) (N₁.pushKeep _) (not_in_size N₁ fun b hb => Nat.le_of_eq (List.mem_singleton.mp hb).symm) (fun Pa j m o => o = listOf vs.toArray k ∧ pick i x ((tbl i).drop j) = pick i x (tbl i) ∧ m (Str.ofString "perm") = some (.ref Pa) ∧ m (Str.ofString "mode") = some (.int x t) ∧ m (Str.ofString "index") = some (.int (i : Int) t')) ⟨rfl, rfl, rfl, rfl, rfl⟩ ?_ ?_
    · clear F₁ N₁ 
      rintro j v m₁ o₁ h₁ tk₁ its hj hv ⟨rfl, hp', hm1, hm2, hm3⟩ hil hap _ F₁ N₁
      obtain ⟨ac, oc, rfl⟩ := one_its hil
      have hne3 : ¬ ac = _ := fun e => hap (e ▸ List.mem_cons_self ..)
      obtain ⟨e, he, rfl⟩ := tbl_get hv
      obtain ⟨tb, tc, hE⟩ := hTe e (List.mem_of_getElem? he)
      have F₂ := mform3 hm1 hm2 hm3 ▸ F₁
      clear F₁
      have hT' : IsTup h₁ e.1 _ := hE.at fun o e => F₂.keep _ _ e
      dsimp only [List.cons_append, List.nil_append] at N₁
      have hd : (tbl i).drop j = e :: (tbl i).drop (j + 1) := drop_of he
      k_steps
      · (rename Fr _ _ _ _ => F₁)
        (rename News _ _ _ _ => N₁)
        (rename (i : Int) = 0 => hi0)
        have hi0' : i = 0 := by omega
        refine useC0 (c_ifmt w p loose mean mg mb x t) X ‹_› F₁ N₁ rfl (by show dp + 1 + 3 < _; omega) (by show u + 3 + 40 < _; omega) ?_
        rintro r h' tk ⟨tr, rfl⟩ F₃ N₃
        clear F₁ N₁
        k_steps
        · dsimp only
          (rename Fr _ _ _ _ => F₁)
          (rename News _ _ _ _ => N₁)
          (rename Builtin.bitAnd x 61440 = _ => hb)
          show wpAny _ _ (execs [] _) _ _ _
          refine wpAny_execs_nil ?_
          refine StepE.go F₁ (fun q hq => N₁ q (sub5 hq)) (by assumption) (by assumption) ⟨_, rfl, vs ++ [.str e.2.2 tc], _, by rw [List.push_toArray], Perm.app hp ?_, rfl, rfl⟩
          rw [← hp', hd, pick, if_pos (by unfold hitB; rw [if_pos hi0']; exact decide_eq_true hb)]
        · dsimp only
          (rename Fr _ _ _ _ => F₁)
          (rename News _ _ _ _ => N₁)
          (rename ¬ Builtin.bitAnd x 61440 = _ => hb)
          refine StepE.go F₁ N₁ (by assumption) (by assumption) ⟨_, rfl, rfl, ?_, rfl, rfl, rfl⟩
          rw [← hp', hd]
          show _ = pick i x (e :: _)
          rw [pick, if_neg (by unfold hitB; rw [if_pos hi0']; exact fun hq => hb (of_decide_eq_true hq))]
      · dsimp only
        (rename Fr _ _ _ _ => F₁)
        (rename News _ _ _ _ => N₁)
        (rename Builtin.bitAnd x _ = _ => hb)
        (rename (i : Int) ≠ 0 => hi0)
        have hi0' : ¬ i = 0 := by omega
        show wpAny _ _ (execs [] _) _ _ _
        refine wpAny_execs_nil ?_
        refine StepE.go F₁ (fun q hq => N₁ q (sub5 hq)) (by assumption) (by assumption) ⟨_, rfl, vs ++ [.str e.2.2 tc], _, by rw [List.push_toArray], Perm.app hp ?_, rfl, rfl⟩
        rw [← hp', hd, pick, if_pos (by unfold hitB; rw [if_neg hi0']; exact decide_eq_true hb)]
      · dsimp only
        (rename Fr _ _ _ _ => F₁)
        (rename News _ _ _ _ => N₁)
        (rename ¬ Builtin.bitAnd x _ = _ => hb)
        (rename (i : Int) ≠ 0 => hi0)
        have hi0' : ¬ i = 0 := by omega
        refine StepE.go F₁ N₁ (by assumption) (by assumption) ⟨_, rfl, rfl, ?_, rfl, rfl, rfl⟩
        rw [← hp', hd]
        show _ = pick i x (e :: _)
        rw [pick, if_neg (by unfold hitB; rw [if_neg hi0']; exact fun hq => hb (of_decide_eq_true hq))]
    · rintro h' tk m' o' F' N' ⟨rfl, hp', hm1, hm2, hm3⟩
      have F₂ := mform3 hm1 hm2 hm3 ▸ F'
      have hnil : (tbl i).drop ((tbl i).map fun e => Value.ref e.1).toArray.size = [] := by rw [List.size_toArray, List.length_map]; exact List.drop_length
      rw [hnil] at hp'
      k_steps
      · dsimp only
        (rename Fr _ _ _ _ => F₁)
        (rename News _ _ _ _ => N₁)
        (rename (i : Int) = 0 => hi0)
        have hi0' : i = 0 := by omega
        refine StepE.go F₁ N₁ (by assumption) (by assumption) ⟨_, rfl, vs ++ [.str _ _], _, by rw [List.push_toArray], Perm.app hp ?_, rfl, rfl⟩
        rw [← hp', pick, if_pos hi0']
      · dsimp only
        (rename Fr _ _ _ _ => F₁)
        (rename News _ _ _ _ => N₁)
        (rename ¬ (i : Int) = 0 => hi0)
        have hi0' : ¬ i = 0 := by omega
        refine StepE.go F₁ N₁ (by assumption) (by assumption) ⟨_, rfl, vs ++ [.str _ _], _, by rw [List.push_toArray], Perm.app hp ?_, rfl, rfl⟩
        rw [← hp', pick, if_neg hi0']
  · rintro h' tk m' o' F' N' ⟨vs, k, rfl, hp, hm1, hm2⟩
    have hp10 : Perm x 10 vs := hp
    obtain ⟨_, t9, ⟨_, t8, ⟨_, t7, ⟨_, t6, ⟨_, t5, ⟨_, t4, ⟨_, t3, ⟨_, t2, ⟨_, t1, ⟨_, t0, rfl, rfl⟩, rfl⟩, rfl⟩, rfl⟩, rfl⟩, rfl⟩, rfl⟩, rfl⟩, rfl⟩, rfl⟩ := hp10
    have F₂ := mform hm1 hm2 ▸ F'
    clear F' hp
    simp only [List.nil_append, List.cons_append] at N'
    k_steps
    (rename Fr _ _ _ _ => F₁)
    (rename News _ _ _ _ => N₁)
    refine join_listW (N₁.isList (List.mem_cons_self ..)) (ys := [pick 0 x (tbl 0), pick 1 x (tbl 1), pick 2 x (tbl 2), pick 3 x (tbl 3), pick 4 x (tbl 4), pick 5 x (tbl 5), pick 6 x (tbl 6), pick 7 x (tbl 7), pick 8 x (tbl 8), pick 9 x (tbl 9)]) ?_ (by decide) ?_ fun t' k => ?_
    · exact .cons _ _ (.cons _ _ (.cons _ _ (.cons _ _ (.cons _ _ (.cons _ _ (.cons _ _ (.cons _ _ (.cons _ _ (.cons _ _ .nil)))))))))
    · simp only [List.map_cons, List.map_nil, List.sum_cons, List.sum_nil, List.length_cons, List.length_nil]
      have h0 := pick_len 0 x (tbl 0) (by decide)
      have h1 := pick_len 1 x (tbl 1) (by decide)
      have h2 := pick_len 2 x (tbl 2) (by decide)
      have h3 := pick_len 3 x (tbl 3) (by decide)
      have h4 := pick_len 4 x (tbl 4) (by decide)
      have h5 := pick_len 5 x (tbl 5) (by decide)
      have h6 := pick_len 6 x (tbl 6) (by decide)
      have h7 := pick_len 7 x (tbl 7) (by decide)
      have h8 := pick_len 8 x (tbl 8) (by decide)
      have h9 := pick_len 9 x (tbl 9) (by decide)
      omega
    · exact End.mk F₁ (IsS.of rfl)
end
end Mine
end
-- part Bd
namespace Mine
theorem calm_Bd (M : PySem.Model) (A : PySem.Around) (e : PySem.Env) (Q : PySem.Flow → PySem.Shared → Prop) (E : PySem.Value → PySem.Shared → Prop) (s : PySem.Shared) (h : PySem.wpAny M A (PySem.execs [] e) Q E s) : PySem.wpAny M A (PySem.execs [] e) Q E s := by
  w_top off
  first | (walk1; fail) | exact h
end Mine
section
open PySem PySem.W PyProof.Rows PySem.Spec PySem.Calls
set_option linter.unusedVariables false
set_option maxRecDepth 100000
set_option maxHeartbeats 4000000
namespace Mine
theorem slot_md_get : Slot "method_descriptor" "__get__" "method_descriptor.__get__" :=
  .of (owner := "method_descriptor") (n := "__get__") (by rw [typeLookup_type, builtinLookup_eq_fast]; kernel_rfl) (by decide +kernel) (by decide +kernel) (by decide +kernel)
    (by first | exact .inl (by decide +kernel) | exact .inr (by decide +kernel)) (by rw [isSubtype_type]; kernel_rfl)
theorem entry_md_get : entryFor table "method_descriptor.__get__" = some Builtin.«method_descriptor.__get__» := entryFor_of_tree (by kernel_rfl)
theorem args_md_get (a b c : Value) : argsOk "method_descriptor.__get__" ⟨[a, b, c], []⟩ := by unfold argsOk; kernel_rfl
theorem md_no_set : typeLookup (.type "method_descriptor") "__set__" = pure none := by rw [typeLookup_type, builtinLookup_eq_fast]; kernel_rfl
theorem md_no_delete : typeLookup (.type "method_descriptor") "__delete__" = pure none := by rw [typeLookup_type, builtinLookup_eq_fast]; kernel_rfl
theorem owner_list_append : (".".intercalate ("list.append".cutAt '.').dropLast) = "list" := by
  have e0 : "list.append".cutAt '.' = ["list", "append"] := by first | rfl | decide +kernel
  rw [e0]; decide +kernel
theorem told_list_append : Manifest.toldItsClass.contains "list.append" = false := by decide +kernel
section
variable {prog : Program} {w : World} {A : Around} {E : Value → Shared → Prop} {h : Heap} {g : Array GenState} {d : Drawn} {t : Nat} {os : OsState} {a : Addr} {o : Obj}
abbrev bmObj (a : Addr) : Obj := { cls := .type "builtin_function_or_method", data := .fields #[.builtin "list.append", .ref a] }
theorem sub_list_append : isSubtype (.type "list") (.type (".".intercalate ("list.append".cutAt '.').dropLast)) = pure true := by
  rw [owner_list_append, isSubtype_type]; kernel_rfl
theorem ap_get {R : Result → Shared → Prop} (hx : h.get? a = some o) (hc : o.cls = .type "list") (hq : R (.ok (.ret (.ref h.objs.size))) ⟨h.push (bmObj a), g, d, t, os⟩) :
    codeAny (model prog w) A (.call (.builtin "method_descriptor.__get__") ⟨[.builtin "list.append", .ref a, .type "list"], []⟩) R ⟨h, g, d, t, os⟩ := by
  have hT : (⟨h, g, d, t, os⟩ : Shared).TypeIs (.ref a) "list" := ⟨_, hx, hc⟩
  have hT5 : (⟨h, g, d, t, os⟩ : Shared).TypeIs (.builtin "list.append") "method_descriptor" := F.type_list_append
  have f8 := sub_list_append
  have f9 := owner_list_append
  have f10 := told_list_append
  refine codeAny_call_builtin slot_md_get.plain entry_md_get (slot_md_get.check _ _ _ _ _ _ _ _ hT5 (args_md_get _ _ _) ?_)
  unfold Builtin.«method_descriptor.__get__»
  repeat (any_goals (first | assumption | wp_step))
theorem ap_entry {u : Tok} {Q : Fin → Shared → Prop} {xs : Array Value} {k : Nat} {sl : Array (Option Value)} (hx : h.get? a = some { cls := .type "list", dict := none, data := .seq xs k, slots := sl }) (hq : Q (.done (.ret (.ref h.objs.size))) ⟨h.push (bmObj a), g, d, t, os⟩) :
    wpAny (model prog w) A (Builtin.«object.__getattribute__» ⟨[.ref a, .str "append" u], []⟩) Q E ⟨h, g, d, t, os⟩ := by
  have hT : (⟨h, g, d, t, os⟩ : Shared).TypeIs (.ref a) "list" := ⟨_, hx, rfl⟩
  have hT5 : (⟨h, g, d, t, os⟩ : Shared).TypeIs (.builtin "list.append") "method_descriptor" := F.type_list_append
  have f4 := F.slot_list_append.lookup
  have f5 := F.type_list_append
  have f6 := slot_md_get.lookup
  have f7 := md_no_set
  have f8 := md_no_delete
  have f9 : (["__module__", "__name__", "__qualname__", "__doc__", "__annotations__"] : List Str).contains (Str.ofString "append") = false := by decide +kernel
  unfold Builtin.«object.__getattribute__»
  repeat (any_goals (first | assumption | wp_step))
  all_goals (try (simp only [f9, Bool.false_eq_true, if_false]))
  repeat (any_goals (first | assumption | wp_step))
  all_goals (try (refine ap_get hx rfl ?_))
  repeat (any_goals (first | assumption | wp_step))
theorem ap_getAttr {Q : Value → Shared → Prop} {xs : Array Value} {k : Nat} {sl : Array (Option Value)} (hx : h.get? a = some { cls := .type "list", dict := none, data := .seq xs k, slots := sl }) (hq : ∀ tk, Q (.ref h.objs.size) ⟨h.push (bmObj a), g, d, tk, os⟩) :
    wpAny (model prog w) A (getAttr (.ref a) "append" true) Q E ⟨h, g, d, t, os⟩ := by
  have hT : ∀ tk', (⟨h, g, d, tk', os⟩ : Shared).TypeIs (.ref a) "list" := fun _ => ⟨_, hx, rfl⟩
  have f3 := F.slot_list_getattribute.lookup
  have f4 := F.slot_list_getattribute.bind (.ref a)
  unfold getAttr getAttrBy
  repeat (any_goals (first | assumption | exact hT _ | ((with_reducible show wpAny _ _ (call (Value.builtin "list.__getattribute__") _ _) _ _ _); refine wpAny_call_entry F.slot_list_getattribute (hT _) am_entry_list_getattribute (ap_entry hx ?_) (F.args_list_getattribute_2 _ _)) | wp_step))
  refine ⟨_, rfl, ?_⟩
  have hb : (h.push (bmObj a)).get? h.objs.size = some (bmObj a) := Heap.get?_push_size _ rfl
  show wpAny _ _ (handedOut (.ref h.objs.size)) _ _ _
  unfold handedOut
  repeat (any_goals (first | assumption | wp_step))
  all_goals (exact hq _)
theorem sub_list_module : isSubtype (.type "list") (.type "module") = pure false := by rw [isSubtype_type]; kernel_rfl
theorem sub_list_type : isSubtype (.type "list") (.type "type") = pure false := by rw [isSubtype_type]; kernel_rfl
theorem varargs_append : Manifest.varargsMethods.contains "list.append" = false := by decide +kernel
theorem ap_call {Q : Value → Shared → Prop} {x : Value} {q : Addr} {xs : Array Value} {k : Nat} (hb : h.get? q = some (bmObj a)) (hx : h.get? a = some { cls := .type "list", dict := none, data := .seq xs k })
    (hq : ∀ h', Heap.SameBut a h h' → h'.get? a = some { cls := .type "list", data := .seq (xs.push x) (k + 1) } → Q .none ⟨h', g, d, t, os⟩) (hsz : xs.size ≤ sizeLine) :
    wpAny (model prog w) A (call (.ref q) [x]) Q E ⟨h, g, d, t, os⟩ := by
  have hT : (⟨h, g, d, t, os⟩ : Shared).TypeIs (.ref a) "list" := ⟨_, hx, rfl⟩
  have f1 := sub_list_module
  have f2 := sub_list_type
  have f3 := varargs_append
  refine wpAny_call ?_
  refine codeAny_of_tree ?_
  show wpAny _ A.in1 (callAny (.ref q) ⟨[x], []⟩) _ _ _
  unfold callAny checkBoundCall
  repeat (any_goals (first | assumption | wp_step))
  refine ⟨Code.quiet_builtin _ (by decide +kernel), codeAny_builtin entry_list_append ?_⟩
  show wpAny _ _ (updateSeq a (·.push x) >>= fun _ => ret .none) _ _ _
  refine wpAny_bind ?_
  refine wpAny_updateSeq hx rfl (wpAny_pure (hq _ (Heap.SameBut.update ..) ?_))
  rw [Heap.get?_update_self _ hx (by rw [mapSeq_push]; rfl), mapSeq_push]
section
variable {s : Shared} {h₀ : Heap} {L q D : Addr} {m : Str → Option Value} {news news' : List (Addr × Obj)} {Q : Value → Shared → Prop} {its : Array Value} {n : Nat} {x : Value}
theorem bm_get (F : Fr h₀ L s.heap m) (N : News h₀ L s.heap news) (hm : (D, listOf its n) ∈ news) (h : ∀ q h' tk, Fr h₀ L h' m → News h₀ L h' ((q, bmObj D) :: news) → (∀ p ∈ news, p.1 < q) → Q (.ref q) { s with heap := h', toks := tk }) :
    wpAny (model prog w) A (getAttr (.ref D) "append" true) Q E s :=
  ap_getAttr (h := s.heap) (t := s.toks) (N _ hm).1 fun tk => h _ _ tk (F.push _) (N.push F _) fun p hp => Heap.lt_size (N p hp).1
theorem bm_call (F : Fr h₀ L s.heap m) (N : News h₀ L s.heap news) (hb : (q, bmObj D) ∈ news) (U : Upd D (listOf its n) (listOf (its.push x) (n + 1)) news news')
    (h : ∀ h', Fr h₀ L h' m → News h₀ L h' news' → Q .none { s with heap := h' }) (hsz : its.size ≤ sizeLine) : wpAny (model prog w) A (call (.ref q) [x]) Q E s := by
  obtain ⟨pre, post, rfl, rfl, a, b⟩ := U.split
  have z := N (D, listOf its n) (List.mem_append.mpr (.inr (.head _)))
  exact ap_call (h := s.heap) (t := s.toks) (N _ hb).1 z.1 (fun h' hs ho' => h h' (F.change hs z.2.1 z.2.2) (news_set N a b hs ho')) hsz
end
end
end Mine
end
-- part Bm2
namespace Mine
theorem calm_Bm2 (M : PySem.Model) (A : PySem.Around) (e : PySem.Env) (Q : PySem.Flow → PySem.Shared → Prop) (E : PySem.Value → PySem.Shared → Prop) (s : PySem.Shared) (h : PySem.wpAny M A (PySem.execs [] e) Q E s) : PySem.wpAny M A (PySem.execs [] e) Q E s := by
  w_top off
  first | (walk1; fail) | exact h
end Mine
section
open PySem PySem.W PyProof.Rows PySem.Spec PySem.Calls
set_option linter.unusedVariables false
set_option maxRecDepth 100000
namespace Mine
section
variable {M : Model} {A : Around} {E : Value → Shared → Prop} {s : Shared} {env : Env} {pos : Pos} {first : List Value} {Q : Value → Shared → Prop}
noncomputable def BmP (q D : Addr) (h : Heap) : Prop := h.get? q = some (bmObj D)
theorem keeps_Bm {q D : Addr} (h : Heap) (X : BmP q D h) : ∃ k, (k = Keeper.frame ∨ k = Keeper.machine ∨ k = Keeper.boundFrame) ∧ Looks M h (keeperOf (.ref q)) k :=
  ⟨.machine, .inr (.inl rfl), (Looks.ld (part := none) X).andThen .now⟩
theorem callWith_bm {h₀ : Heap} {L q D : Addr} {news : List (Addr × Obj)} {e : Expr} {rest : List Expr} (_N : News h₀ L s.heap news) (_q : (q, bmObj D) ∈ news)
    (h : wpAny M A (spliced (backTo pos (starEach (e :: rest) env))) (fun vs s₁ => BmP q D s₁.heap ∧ wpAny M A (call (.ref q) (first ++ vs)) Q E s₁) E s)
    (he : starEach (e :: rest) env = (false, eval e env) :: starEach rest env := by rfl) (hplain : (backTo pos (starEach rest env)).any (·.1) = false := by rfl) :
    wpAny M A (callWith pos (.ref q) first (backTo pos (starEach (e :: rest) env)) []) Q E s := by
  rw [he] at h ⊢
  exact callWith_of (by show ((false || (backTo pos (starEach rest env)).any (·.1)) || false) = false; rw [hplain]; rfl) keeps_Bm (evalArgs_plain h)
theorem bmP {h₀ : Heap} {L : Addr} {h : Heap} {news : List (Addr × Obj)} {q D : Addr} (N : News h₀ L h news) (hq : (q, bmObj D) ∈ news) : BmP q D h := (N _ hq).1
end
end Mine
end
-- part Esc
namespace Mine
theorem calm_Esc (M : PySem.Model) (A : PySem.Around) (e : PySem.Env) (Q : PySem.Flow → PySem.Shared → Prop) (E : PySem.Value → PySem.Shared → Prop) (s : PySem.Shared) (h : PySem.wpAny M A (PySem.execs [] e) Q E s) : PySem.wpAny M A (PySem.execs [] e) Q E s := by
  w_top off
  first | (walk1; fail) | exact h
end Mine
section
open PySem PySem.W PyProof.Rows PySem.Spec PySem.Calls
open PySem.Builtin PySem.Builtin.Str
set_option linter.unusedVariables false
set_option linter.unusedSimpArgs false
set_option maxRecDepth 100000
set_option maxHeartbeats 8000000
namespace Mine
section
variable {prog : Program} {w : World} {A : Around} {E : Value → Shared → Prop} {s : Shared}
theorem look_text {d : Addr} {f : Int → Option Value} {c : Nat} {y : Str} {u : Tok} {Q : Mapped → Shared → Prop} (hm : s.heap.MapOf (intKind prog w) d f) (hv : f c = some (.str y u))
    (h : ∀ tk, Q (.text y) { s with toks := tk }) : wpAny (model prog w) A (tableLookup (.ref d) c) Q E s := by
  unfold tableLookup
  refine wpAny_bind (wpAny_attempt (wpAny_bind (wpAny_mkInt ?_)))
  refine wpAny_getItem_of (knd := intKind prog w) (k := (c : Int)) (f := f) (v := .str y u) (by simp [intKind, Value.isInt]) hm hv ?_
  refine wpAny_bind (wpAny_of_eq (a := none) (by rfl) ?_)
  refine wpAny_bind (wpAny_of_eq (a := some y) (by rfl) ?_)
  exact wpAny_pure (h _)
theorem call_translate {d : Addr} {f : Int → Option Value} {c a b : Nat} {t u : Tok} {Q : Value → Shared → Prop} (hm : s.heap.MapOf (intKind prog w) d f) (hv : f c = some (.str ⟨#[a, b]⟩ u)) (hc : c < 128)
    (h : ∀ t' tk, Q (.str ⟨#[a, b]⟩ t') { s with toks := tk }) : wpAny (model prog w) A (call (.builtin "str.translate") [.str ⟨#[c]⟩ t, .ref d]) Q E s := by
  refine wpAny_call_entry F.slot_str_translate (typeIs_str _ _ _) F.entry_str_translate ?_ (F.args_str_translate_2 _ _)
  unfold «str.translate» strOneArg selfAndOne textOf
  refine wpAny_bind (wpAny_bind (wpAny_bind (wpAny_of_eq (a := ()) (by rfl) (wpAny_pure ?_))))
  refine wpAny_bind (wpAny_bind (wpAny_of_eq (a := some (⟨#[c]⟩ : Str)) (by rfl) (wpAny_pure (wpAny_pure ?_))))
  dsimp only
  rw [if_neg (fun h => absurd h (by simp [Str.length]))]
  refine wpAny_bind ?_
  rw [← Array.forIn_toList]
  show wpAny _ _ (forIn [c] _ _) _ _ _
  rw [List.forIn_cons]
  refine wpAny_bind ?_
  have hall : (#[c] : Array Nat).all (fun x => decide (x < 128)) = true := by simp [hc]
  simp only [hall, if_true]
  have h0 : ¬ (tooLong 0 = true) := by decide
  rw [if_neg h0]
  show wpAny _ _ (tableLookup _ c >>= _) _ _ _
  refine wpAny_bind (look_text hm hv fun tk => ?_)
  have hl : ((⟨#[a, b]⟩ : Str).length == 1 && (⟨#[a, b]⟩ : Str).cps.all fun x => decide (x < 128)) = false := rfl
  dsimp only
  simp only [hl, Bool.false_eq_true, if_false]
  refine wpAny_bind (wpAny_pure ?_)
  refine wpAny_bind (wpAny_rule ?_)
  refine wpAny_bind (look_text (s := { s with toks := tk }) hm hv fun tk' => ?_)
  refine wpAny_pure ?_
  dsimp only
  rw [List.forIn_nil]
  refine wpAny_pure ?_
  dsimp only
  have h2 : ¬ (tooLong (0 + (⟨#[a, b]⟩ : Str).length) = true) := by
    show ¬ (tooLong 2 = true)
    decide
  rw [if_neg (by first | exact h2 | (show ¬ (tooLong 2 = true); decide))]
  refine wpAny_bind (wpAny_mkStr (wpAny_pure ⟨_, rfl, ?_⟩) (by first | decide | (show 2 ≤ sizeLine; decide)))
  exact h _ _
end
noncomputable def es55 (P : Params) : Array DictEntry := match (Mine.hd.heap_1 P).lookup 55 with | some ⟨_, _, .dict es _, _⟩ => es | _ => #[]
noncomputable def okI (e : DictEntry) : Bool := match e.key with | .int k _ => e.hash == hashInt k | _ => false
theorem lk55 (P : Params) : (Mine.hd.heap_1 P).lookup 55 = some ⟨.type "dict", none, .dict (es55 P) 24, #[]⟩ := rfl
theorem ok55 (P : Params) : (es55 P).toList.all okI = true := by rfl
theorem map55 {prog : Program} {w : World} {h : Heap} (X : (Mine.hd.heap_1 w.params).In h) : h.MapOf (intKind prog w) 55 (fun k => findBy Value.isInt (es55 w.params) k) := by
  refine ⟨_, _, _, X 55 _ (lk55 _), ⟨rfl, rfl, rfl⟩, rfl, fun e he => ?_, fun _ => rfl⟩
  have := List.all_eq_true.mp (ok55 w.params) e (Array.mem_toList_iff.mpr he)
  unfold okI at this
  split at this
  · rename_i k t hk
    exact ⟨k, by rw [hk]; simp [intKind, Value.isInt], by simpa [intKind] using this⟩
  · cases this
theorem at55_blank (P : Params) : ∃ u, findBy Value.isInt (es55 P) ((32 : Nat) : Int) = some (.str ⟨#[92, 32]⟩ u) := ⟨_, by rfl⟩
theorem at55_dot (P : Params) : ∃ u, findBy Value.isInt (es55 P) ((46 : Nat) : Int) = some (.str ⟨#[92, 46]⟩ u) := ⟨_, by rfl⟩
local macro_rules | `(tactic| walk_at "getMethod str") => `(tactic| (k_here; (with_reducible show wpAny _ _ (getMethod (Value.str _ _) (PySem.Str.ofString "translate") _) _ _ _); refine GM.of (.str _ _) (typeIs_str _ _ _) PySem.F.slot_str_translate PySem.F.type_str_translate GM.noRef ?_))
section
variable (w : World) (p : Program) (loose : List Str) (mean : ExcName → Option Value) (mg mb : Str → Option Value)
theorem c_escape (c a b : Nat) (hc : c < 128) (hv : ∃ u, findBy Value.isInt (es55 w.params) (c : Int) = some (.str ⟨#[a, b]⟩ u)) (t : Tok) : PC0 w p loose mean mg mb 65 3 40 [.str ⟨#[c]⟩ t] (fun r => IsS ⟨#[a, b]⟩ r) := by
  unfold PC0
  intro dp u gd fr s E X T hdp hun
  (refine wpAny_call ?_; k_dflt (refine' enterP (K := Mine.hd.heap_1 _) ?kX ?kT ?k6 ?k7 ?k8 ?k9 ?kB ?_ ?c2 ?c3 ?c4 ?c5; (case kX => assumption); (case kT => assumption); (case k6 => k_is); (case k7 => k_is); (case k8 => ((try simp only [Ar]); omega)); (case k9 => exact BindsTo.of_eq rfl); (case c5 => decide); (case kB => exact locs rfl); (case c2 => exact rfl); (case c3 => exact rfl); (case c4 => exact rfl); k_whole; intro _ _ _ _ _ _; (try dsimp only); (try k_fold)))
  k_steps
  (rename Fr _ _ _ _ => F₁)
  (rename News _ _ _ _ => N₁)
  obtain ⟨u, hv⟩ := hv
  refine call_translate (map55 (X.keeps F₁.keep)) hv hc fun t' tk' => ?_
  (all_goals (try dsimp only))
  exact End.mk F₁ (IsS.of rfl)
end
end Mine
end
-- part Tx
namespace Mine
theorem calm_Tx (M : PySem.Model) (A : PySem.Around) (e : PySem.Env) (Q : PySem.Flow → PySem.Shared → Prop) (E : PySem.Value → PySem.Shared → Prop) (s : PySem.Shared) (h : PySem.wpAny M A (PySem.execs [] e) Q E s) : PySem.wpAny M A (PySem.execs [] e) Q E s := by
  w_top off
  first | (walk1; fail) | exact h
end Mine
section
open PySem PySem.W PyProof.Rows PySem.Spec PySem.Calls
open PySem.Builtin PySem.Builtin.Str
set_option linter.unusedVariables false
set_option maxRecDepth 100000
namespace Mine
theorem gives_find4 (x y : Str) (i j : Int) (t u v v' : Tok) : Gives («str.find» ⟨[.str x t, .str y u, .int i v, .int j v'], []⟩) (.int (match occurrences x y (fromIndex x.length i) (min (fromIndex x.length j) x.length) 1 with | k :: _ => (k : Int) | [] => -1)) := by
  show Gives (match occurrences x y (fromIndex x.length i) (min (fromIndex x.length j) x.length) 1 with | k :: _ => retInt k | [] => (do rule "str.find.not-found"; retInt (-1))) _
  cases occurrences x y (fromIndex x.length i) (min (fromIndex x.length j) x.length) 1 with
  | nil => exact .rule (.of_eq rfl)
  | cons k _ => exact .of_eq rfl
section
variable {prog : Program} {w : World} {A : Around} {E : Value → Shared → Prop} {s : Shared}
theorem call_find4_none {x y : Str} {i j : Int} {t u v v' : Tok} {Q : Value → Shared → Prop} (hn : occurrences x y (fromIndex x.length i) (min (fromIndex x.length j) x.length) 1 = [])
    (hq : ∀ t' k, Q (.int (-1) t') { s with toks := k }) : wpAny (model prog w) A (call (.builtin "str.find") [.str x t, .str y u, .int i v, .int j v']) Q E s := by
  have g := gives_find4 x y i j t u v v'
  rw [hn] at g
  exact call_gives F.slot_str_find (typeIs_str _ _ _) F.entry_str_find (F.args_str_find_4 _ _ _ _) g (hq _ _)
theorem occ_fold (x sub : Str) {b n : Nat} (hb : ∀ i, b < i + sub.length → True) : ∀ (l : List Nat) (f : Array Nat) (k : Nat), (∀ i ∈ l, b < i + sub.length) →
    (forIn (m := Id) l (f, k) fun i (r : Array Nat × Nat) => if (decide (r.1.size < n) && decide (r.2 ≤ i) && decide (i + sub.length ≤ b) && subAt x sub i) = true then pure (ForInStep.yield (r.1.push i, i + sub.length)) else pure (ForInStep.yield (r.1, r.2))) = pure (f, k)
  | [], f, k, _ => by rw [List.forIn_nil]
  | i :: l, f, k, h => by
    have h1 := h i (List.mem_cons_self ..)
    rw [List.forIn_cons]
    have h2 : decide (i + sub.length ≤ b) = false := by simp; omega
    simp only [h2, Bool.and_false, Bool.false_and, Bool.false_eq_true, if_false]
    exact occ_fold x sub hb l f k fun i hi => h i (List.mem_cons_of_mem _ hi)
theorem occ_empty (x sub : Str) {a b n : Nat} (h : b < a + sub.length) : occurrences x sub a b n = [] := by
  unfold occurrences
  have key := occ_fold x sub (b := b) (n := n) (fun _ _ => trivial) (List.range' a (b + 1 - a)) #[] a (fun i hi => by
    rw [List.mem_range'_1] at hi
    omega)
  dsimp only
  rw [show (forIn [a:b + 1] ((#[] : Array Nat), a) fun i (r : Array Nat × Nat) => if (decide (r.1.size < n) && decide (r.2 ≤ i) && decide (i + sub.length ≤ b) && subAt x sub i) = true then pure (ForInStep.yield (r.1.push i, i + sub.length)) else pure (ForInStep.yield (r.1, r.2))) = (pure ((#[] : Array Nat), a) : Id _) from by
    rw [Std.Legacy.Range.forIn_eq_forIn_range']
    have e : ([a:b + 1] : Std.Legacy.Range).size = b + 1 - a := by simp [Std.Legacy.Range.size]
    rw [e]
    exact key]
  rfl
theorem item_ofs {value slice : Expr} {P : Str} {t u : Tok} {c j : Nat} {e : Int} {Q : Value → Shared → Prop} (he : e = (j : Int)) (hc : P.cps[j]? = some c) (hn : P.length ≤ 16777216) (h : ∀ t' k, Q (.str ⟨#[c]⟩ t') { s with toks := k })
    (hs : subscripted slice false (.str P t) (.int e u) = operate [.str P t, .int e u] (getItem (.str P t) (.int e u)) := by with_unfolding_all rfl)
    (ht : ∀ r, letTemporaryGo value (.str P t) r = pure () := by intro _; with_unfolding_all rfl) :
    wpAny (model prog w) A (subscriptTail value slice (.str P t) (.int e u)) Q E s := by
  have hlt : j < P.length := by
    obtain ⟨h', _⟩ := Array.getElem?_eq_some_iff.mp hc
    exact h'
  have hi : Txt.item P e = ⟨#[c]⟩ := by
    subst he
    unfold Txt.item Txt.charAt
    have hj : seqIndex? (j : Int) P.length = some j := by
      unfold seqIndex?
      have h0 : ¬ ((j : Int) < 0) := by omega
      simp only [h0, if_false]
      simp
      omega
    rw [hj, Option.bind_some, hc]
    rfl
  refine KXi.item (n := P.length) rfl (by omega) (by omega) hn (fun _ => ?_) hs ht
  rw [hi]
  exact h _ _
theorem range_get : ∀ (l : List Nat) (a n : Nat), a + n ≤ l.length → ((List.range n).map fun k => a + k).filterMap (fun i => l[i]?) = (l.drop a).take n
  | l, a, 0, _ => by simp
  | l, a, n + 1, h => by
    have ih := range_get l a n (by omega)
    rw [List.range_succ, List.map_append, List.filterMap_append, ih, List.take_add_one]
    congr 1
    have : a + n < l.length := by omega
    simp [this]
theorem sliceIdxN {a n : Nat} (hb : a ≤ n) : strSliceIndices (some (a : Int)) none 1 n = (List.range (n - a)).map fun k => a + k := by
  have e : strSliceIndices (some (a : Int)) none 1 n = strSliceIndices (some (a : Int)) (some (n : Int)) 1 n := by
    unfold strSliceIndices
    have h2 : ¬ ((n : Int) < 0) := by omega
    have h4 : max (0 : Int) (min (n : Int) (n : Int)) = n := by omega
    simp only [h2, if_false, show (1 : Int) > 0 by decide, if_true, h4]
  rw [e, PySem.StrLaws.strSliceIndices_plain hb (Nat.le_refl _)]
theorem slice_of {P : Str} {a n : Nat} {lo hi : Option Int} (e : strSliceIndices lo hi 1 P.length = (List.range n).map fun k => a + k) (hb : a + n ≤ P.length) : Txt.slice P lo hi = ⟨((P.cps.toList.drop a).take n).toArray⟩ := by
  unfold Txt.slice
  rw [e]
  have hl : P.cps.toList.length = P.length := rfl
  split
  · rename_i h
    simp at h
    have ha : a = 0 := by omega
    subst ha
    rw [List.drop_zero, h, ← hl, List.take_length]
  · have : (fun (x : Nat) => P.cps[x]?) = fun (x : Nat) => P.cps.toList[x]? := by funext x; simp
    rw [this, range_get _ _ _ (by omega)]
theorem slice_txt {P : Str} {a b : Nat} (hab : a ≤ b) (hb : b ≤ P.length) : Txt.slice P (some (a : Int)) (some (b : Int)) = ⟨((P.cps.toList.drop a).take (b - a)).toArray⟩ := slice_of (PySem.StrLaws.strSliceIndices_plain hab hb) (by omega)
theorem slice_from {P : Str} {a : Nat} (hb : a ≤ P.length) : Txt.slice P (some (a : Int)) none = ⟨(P.cps.toList.drop a).toArray⟩ := by
  rw [slice_of (sliceIdxN hb) (by omega), List.take_of_length_le]
  have hl : P.cps.toList.length = P.length := rfl
  rw [List.length_drop]
  omega
end
end Mine
end
-- part Gn
namespace Mine
theorem calm_Gn (M : PySem.Model) (A : PySem.Around) (e : PySem.Env) (Q : PySem.Flow → PySem.Shared → Prop) (E : PySem.Value → PySem.Shared → Prop) (s : PySem.Shared) (h : PySem.wpAny M A (PySem.execs [] e) Q E s) : PySem.wpAny M A (PySem.execs [] e) Q E s := by
  w_top off
  first | (walk1; fail) | exact h
end Mine
section
open PySem PySem.W PyProof.Rows PySem.Spec PySem.Calls
set_option linter.unusedVariables false
set_option maxRecDepth 100000
namespace Mine
section
variable {prog : Program} {w : World} {A : Around} {E : Value → Shared → Prop} {s : Shared} {h₀ : Heap} {L D P : Addr} {m : Str → Option Value} {news : List (Addr × Obj)}
noncomputable def CodeStep (prog : Program) (w : World) (A : Around) (env : Env) (pos : Pos) (qual : Str) (scope : Scope) (P : Addr) (ps : Array Value) (T : Array Value → Prop) (h : Heap) : Prop :=
  ∀ (s₂ : Shared) (Q : Value → Shared → Prop) (E : Value → Shared → Prop), (∀ b o, h.get? b = some o → s₂.heap.get? b = some o) →
    (∀ cv h' tk ps', Heap.ExtBut P s₂.heap h' → s₂.heap.objs.size ≤ h'.objs.size → h'.get? P = some (tabObj ps') → T ps' → Q cv { s₂ with heap := h', toks := tk }) →
    wpAny (model prog w) A (genexprCode env pos qual scope) Q E s₂
structure GenRdy (prog : Program) (w : World) (A : Around) (a : Addr) (y : Str) (h₀ : Heap) (L : Addr) (news : List (Addr × Obj)) (s : Shared) where
  fp : List Addr
  wr : List Addr
  g : Nat
  St : Nat → Shared → Prop
  W : WalksS prog w A.in4 a fp wr (GenOnlyQ g) 1 (fun _ v => ∃ t, v = .str y t) St
  ty : ∀ i s, St i s → s.TypeIs (.ref a) "generator"
  st : St 0 s
  lt : ∀ b ∈ fp, b < s.heap.objs.size
  mem : a ∈ fp
  apart : ∀ b ∈ wr, b ≠ L ∧ h₀.get? b = none ∧ ∀ q ∈ news, q.1 ≠ b
theorem ne_of_data {h : Heap} {a b : Addr} {o o' : Obj} (x : h.get? a = some o) (y : h.get? b = some o') (d : o.data ≠ o'.data) : a ≠ b := by rintro rfl; exact d (congrArg Obj.data (Option.some.inj (x.symm.trans y)))
theorem ne_of_cls {h : Heap} {a b : Addr} {o o' : Obj} (x : h.get? a = some o) (y : h.get? b = some o') (d : o.cls ≠ o'.cls) : a ≠ b := by rintro rfl; exact d (congrArg Obj.cls (Option.some.inj (x.symm.trans y)))
theorem passing_one : passing (fun _ => true) 1 0 = [0] := by decide
theorem gen_one {env : Env} {elt iter : Expr} {x y y' : Str} {u : Tok} {n : Nat} {px : Pos} {scope : Scope} {pos : Pos} {ps : Array Value} {T : Array Value → Prop} {g : Obj → List (Addr × Obj)} {mg mb : Str → Option Value} {p : Program} {loose : List Str} {mean : ExcName → Option Value} {Q : Value → Shared → Prop}
    (F : Fr h₀ L s.heap m) (N : News h₀ L s.heap news) (To : Top p loose mean mg mb h₀) (hge0 : env.globals = mainGlobals) (hD : (D, listOf #[.str y u] n) ∈ news) (U : UpdF P (tabObj ps) news g) (hDP : D ≠ P) (hbare : AllBare s.gens)
    (hh : A.handled = none) (hco : scope.isCoroutine = false) (hclos : closureFor scope env = pure []) (hcell : ∀ y ∈ scope.names, y.2 ≠ .cell) (h0 : scope.names.lookup (".0" : Str) = some NameKind.local)
    (hx : scope.names.lookup x = some .local) (hkind : scope.kind = .function) (hroom : A.depth < recursionLimit)
    (hi : wpAny (model prog w) A (eval iter env) (fun xv s₁ => xv = .ref D ∧ s₁ = s) E s)
    (hc : CodeStep prog w A env pos (env.qual ++ "<genexpr>") scope P ps T s.heap)
    (helt : ∀ (A' : Around) E' t (s₂ : Shared) C code bi m₂, A'.handled = none → s₂.heap.Ns C m₂ → m₂ x = some (.str y t) → wpAny (model prog w) A' (eval elt (genEnv scope [] C code bi env)) (fun v s₃ => (∃ t', v = .str y' t') ∧ Keeps s₂ s₃) E' s₂)
    (hs : ∀ x, genFold iter env x = pure x)
    (h : ∀ a h' tk gs ps', GenRdy prog w A a y' h₀ L (g (tabObj ps')) { s with heap := h', gens := s.gens.push gs, toks := tk } → gs.bare = true → T ps' → Fr h₀ L h' m → News h₀ L h' (g (tabObj ps')) → (∀ q ∈ news, q.1 < a) →
      Q (.ref a) { s with heap := h', gens := s.gens.push gs, toks := tk }) :
    wpAny (model prog w) A (eval (.GeneratorExp elt [⟨.Name x px, iter, [], 0⟩] scope pos) env) Q E s := by
  obtain ⟨own, rest, rfl, hgr, hu1, hu2⟩ := U.split
  have hm := N (P, tabObj ps) (List.mem_append_right _ (.head _))
  have hgs := To.g.keeps F.keep
  obtain ⟨bm, ob, b1, b2, b3, b4, b5, b6⟩ := To.bmain
  have hlim := (To.nolimit).keeps F.keep
  have hgP : mainGlobals ≠ P := by
    obtain ⟨_, _, _, e, d, -⟩ := hgs
    exact ne_of_data e hm.1 (d ▸ nofun)
  have hbP : bm ≠ P := ne_of_cls (F.keep _ _ b3) hm.1 (b4 ▸ nofun)
  have hcP : cStatics ≠ P := by
    obtain ⟨_, ⟨_, _, _, e, d, -⟩, -⟩ := hlim
    exact ne_of_data e hm.1 (d ▸ nofun)
  have hl : s.heap.IsList D #[.str y u] := N.isList hD
  have hDlt : D < s.heap.objs.size := Heap.lt_size (N _ hD).1
  refine wpAny_GeneratorExp_walksQ hh hco hclos hcell h0 hx hkind hroom (wpAny_mono hi (fun xv s₁ h₁' => ?_) fun _ _ e => e) hs
  obtain ⟨rfl, rfl⟩ := h₁'
  refine wpAny_pyIter_list hl ⟨hlim.push _, ?_⟩
  refine hc _ _ _ (fun b o e => Heap.get?_push_of_some _ e) fun cv h₃ tk₃ ps' hx₃ hsz₃ hP₃ hT => ?_
  have hx₃' : Heap.ExtBut P s₁.heap h₃ := fun b o hb e => hx₃ b o hb (Heap.get?_push_of_some _ e)
  have hsz₃' : s₁.heap.objs.size + 1 ≤ h₃.objs.size := by rw [Heap.size_push] at hsz₃; exact hsz₃
  refine wpAny_builtinsFor (hge0 ▸ hgs.extBut hx₃' hgP) b1 b2 (hx₃' _ _ hbP (F.keep _ _ b3)) b4 b5 b6 ?_
  have hIP : s₁.heap.objs.size ≠ P := fun e => Nat.lt_irrefl _ (e ▸ Heap.lt_size hm.1)
  have hlim₃ : h₃.NoLimit := hlim.extBut hx₃' hcP
  have hit₃ : h₃.IsListIter s₁.heap.objs.size D 0 := by
    obtain ⟨o, ho, r⟩ : (s₁.heap.push { cls := .type "list_iterator", data := .fields #[.ref D, .int 0 0] }).IsListIter s₁.heap.objs.size D 0 := ⟨_, Heap.get?_push_size _ rfl, rfl, rfl⟩
    exact ⟨o, hx₃ _ _ hIP ho, r⟩
  have hl₃ : h₃.IsList D #[.str y u] := hl.at fun o e => hx₃' _ _ hDP e
  have hct : cStatics < s₁.heap.objs.size := by obtain ⟨_, hn, _⟩ := hlim; exact hn.lt
  refine ⟨s₁.heap.objs.size, [s₁.heap.objs.size, D], [s₁.heap.objs.size], 1, _, _, fun _ => true, fun _ v => ∃ t, v = .str y' t, rfl, fun A' hA => Walks.list hA s₁.heap.objs.size D (Nat.ne_of_lt hDlt) #[.str y u], ⟨hit₃, hl₃⟩, ?_, hlim₃, ?_, fun href _ => ⟨?_, ?_⟩, ?_⟩
  · intro b hb
    rcases List.mem_cons.mp hb with rfl | hb
    · exact Nat.lt_of_succ_le hsz₃'
    · rw [List.mem_singleton.mp hb]; exact Nat.lt_of_lt_of_le hDlt (Nat.le_of_succ_le hsz₃')
  · intro hb
    exact Nat.ne_of_lt hct (List.mem_singleton.mp hb)
  · intro A' E' i v s₂ m₂ _ _ _ _ _
    rw [List.forIn_nil]
    exact wpAny_pure ⟨rfl, s₂.heap, s₂.toks, rfl, fun _ _ e => e⟩
  · intro A' E' i v s₂ m₂ hA hP _ hn hm₂ _
    have hv : ∃ t, v = .str y t := by
      have hP' : (#[Value.str y u] : Array Value)[i]? = some v := hP
      match i, hP' with
      | 0, hP' => exact ⟨u, (Option.some.inj hP').symm⟩
    obtain ⟨t, rfl⟩ := hv
    exact helt A' E' t s₂ _ _ _ m₂ hA hn hm₂
  · intro a h₅ tk gs hb hlt hsz hk₅ W GA
    have hk : ∀ b o, b ≠ P → s₁.heap.get? b = some o → h₅.get? b = some o := fun b o hb e => hk₅ b o (hx₃' b o hb e)
    have old : ∀ b o, h₀.get? b = some o → h₅.get? b = some o := fun b o e => hk b o (fun q => by rw [q, hm.2.2] at e; cases e) (F.keep b o e)
    refine h a h₅ tk gs ps' ?_ hb hT ⟨(F.ns.at' fun o e => hk _ o hm.2.1.symm e), old, F.above⟩ ?_ ?_
    · refine ⟨_, _, _, _, ⟨W.sub, W.grefl, W.gtrans, W.frame, fun i s Q E hi st hQ => W.item i s Q E hi st fun v s' hv => hQ v s' ?_, W.done, W.self⟩, fun i s st => ?_, GA, ?_, List.mem_cons_self .., ?_⟩
      · obtain ⟨_, _, hF⟩ := hv; exact hF
      · obtain ⟨o, nm, qn, ho, hc, _⟩ := st.1; exact ⟨o, ho, hc⟩
      · intro b hb
        show b < h₅.objs.size
        rw [hsz]
        rcases List.mem_cons.mp hb with rfl | hb
        · exact Nat.lt_succ_self _
        rcases List.mem_cons.mp hb with rfl | hb
        · exact Nat.lt_succ_of_lt hlt
        · exact Nat.lt_succ_of_lt (Nat.lt_trans (List.mem_range.mp hb) hlt)
      · intro b hb
        have hge : s₁.heap.objs.size ≤ b := by
          rcases List.mem_cons.mp hb with rfl | hb
          · exact Nat.le_trans (Nat.le_succ _) hsz₃'
          · rw [List.mem_singleton.mp hb]; exact Nat.le_refl _
        have hLb : L < b := Nat.lt_of_lt_of_le F.ns.lt hge
        refine ⟨Nat.ne_of_gt hLb, Heap.get?_none_of_le (Nat.le_trans F.above (Nat.le_of_lt hLb)), fun q hq => Nat.ne_of_lt (Nat.lt_of_lt_of_le ?_ hge)⟩
        rw [hgr] at hq
        rcases List.mem_append.mp hq with hq | hq
        · exact Heap.lt_size (N q (List.mem_append_left _ hq)).1
        rcases List.mem_cons.mp hq with rfl | hq
        · exact Heap.lt_size hm.1
        · exact Heap.lt_size (N q (List.mem_append_right _ (.tail _ hq))).1
    · rw [hgr]
      intro q hq
      rcases List.mem_append.mp hq with hq | hq
      · have n := N q (List.mem_append_left _ hq)
        exact ⟨hk _ _ (hu1 q hq) n.1, n.2⟩
      · rcases List.mem_cons.mp hq with rfl | hq
        · exact ⟨hk₅ _ _ hP₃, hm.2⟩
        · have n := N q (List.mem_append_right _ (.tail _ hq))
          exact ⟨hk _ _ (hu2 q hq) n.1, n.2⟩
    · exact fun q hq => Nat.lt_trans (Nat.lt_of_lt_of_le (Heap.lt_size (N q hq).1) (Nat.le_of_succ_le hsz₃')) hlt
theorem join_one {a : Addr} {sep y : Str} {t : Tok} {Q : Value → Shared → Prop} (G : GenRdy prog w A a y h₀ L news s) (F : Fr h₀ L s.heap m) (N : News h₀ L s.heap news) (hb : AllBare s.gens) (hy : JoinOk sep [y] = true)
    (h : ∀ t' h' tk g', Fr h₀ L h' m → News h₀ L h' news → AllBare g' → Q (.str y t') { s with heap := h', gens := g', toks := tk }) :
    wpAny (model prog w) A (call (.builtin "str.join") [.str sep t, .ref a]) Q E s := by
  obtain ⟨fp, wr, g, St, W, ty, st, lt, mem, ap⟩ := G
  refine SC.joinGen W.in4_2 ty st lt mem (fun i v hv => by obtain ⟨t, rfl⟩ := hv; exact ⟨y, t, rfl⟩) (fun s' l hm hi => ?_) (by decide)
  obtain ⟨hsz, hall⟩ := hi
  have hl : l.map (·.1) = [y] := by
    match l, hsz with
    | [], hsz => simp [strValues] at hsz
    | [q], _ =>
      obtain ⟨t, ht⟩ := hall 0 (.str q.1 q.2) rfl
      have : q.1 = y := by injection ht
      rw [List.map_cons, List.map_nil, this]
    | _ :: _ :: _, hsz => simp [strValues] at hsz
  rw [hl]
  refine ⟨hy, fun t' k => ?_⟩
  have e : s' = { s with heap := s'.heap, gens := s'.gens, toks := s'.toks } := by
    obtain ⟨a1, a2, a3, a4, a5⟩ := s'
    have h1 := hm.drawn
    have h2 := hm.os
    dsimp only at h1 h2
    subst h1 h2
    rfl
  have hkeep : ∀ b o, s.heap.get? b = some o → (b = L ∨ (∃ o', h₀.get? b = some o') ∨ ∃ q ∈ news, q.1 = b) → s'.heap.get? b = some o := fun b o e hb' => hm.heap b o (fun hw => by
    obtain ⟨h1, h2, h3⟩ := ap b hw
    rcases hb' with hb' | ⟨o', hb'⟩ | ⟨q, hq, hb'⟩
    · exact h1 hb'
    · rw [h2] at hb'; cases hb'
    · exact h3 q hq hb') e
  have hj : Txt.join sep [y] = y := rfl
  rw [hj, e]
  refine h t' _ k _ ⟨F.ns.at' fun o e => hkeep _ o e (.inl rfl), fun b o e => hkeep b o (F.keep b o e) (.inr (.inl ⟨o, e⟩)), F.above⟩ (fun q hq => ⟨hkeep _ _ (N q hq).1 (.inr (.inr ⟨q, hq, rfl⟩)), (N q hq).2⟩) ?_
  exact hm.gens.bare hb
end
section
variable {prog : Program} {w : World} {A : Around} {h : Heap}
theorem codeStep_miss {env : Env} {c P : Addr} {ps : Array Value} {pos : Pos} {qual : Str} {scope : Scope} (hc : env.code = .ref c) (C : CodeHd h c P) (hP : h.get? P = some (tabObj ps)) (ht : TriplesOk ps.toList) (hnf : codeAmong pos ps.toList = none) :
    CodeStep prog w A env pos qual scope P ps (fun ps' => ∃ c', ps' = ps ++ #[rawInt pos.line, rawInt pos.col, .ref c']) h := fun s₂ Q E hk hQ => by
  have C₂ := C.keeps hk
  refine wpAny_genexprCodeX hc (C₂.code (hk _ _ hP) ht) (C₂.tab (hk _ _ hP)) hnf fun c' h' tk hx hge hlt _ _ htb _ => ?_
  exact hQ _ h' tk _ hx (Nat.le_trans hge (Nat.le_of_lt hlt)) htb.2 ⟨c', rfl⟩
theorem codeStep_hit {env : Env} {c P : Addr} {ps : Array Value} {pos : Pos} {qual : Str} {scope : Scope} {cv : Value} (hc : env.code = .ref c) (C : CodeHd h c P) (hP : h.get? P = some (tabObj ps)) (ht : TriplesOk ps.toList) (hf : codeAmong pos ps.toList = some cv) :
    CodeStep prog w A env pos qual scope P ps (fun ps' => ps' = ps) h := fun s₂ Q E hk hQ => by
  have C₂ := C.keeps hk
  exact wpAny_genexprCode_hit hc (C₂.code (hk _ _ hP) ht) hf (hQ cv s₂.heap s₂.toks ps (Heap.ExtBut.refl _ _) (Nat.le_refl _) (hk _ _ hP) rfl)
end
section
variable {prog : Program} {w : World} {A : Around} {E : Value → Shared → Prop} {s : Shared}
theorem replace_none {x y z : Str} {t u v : Tok} {Q : Value → Shared → Prop} (hn : (Builtin.Str.occurrences x y 0 x.length (x.length + 1)).isEmpty = true) (hq : Q (.str x t) s) :
    wpAny (model prog w) A (call (.builtin "str.replace") [.str x t, .str y u, .str z v]) Q E s := by
  have g := gives_str_replace x y z t u v (fun h => by rw [hn] at h; cases h)
  rw [hn] at g
  exact call_gives F.slot_str_replace (typeIs_str _ _ _) F.entry_str_replace (F.args_str_replace_3 _ _ _) g hq
end
end Mine
end
-- part Elt
namespace Mine
theorem calm_Elt (M : PySem.Model) (A : PySem.Around) (e : PySem.Env) (Q : PySem.Flow → PySem.Shared → Prop) (E : PySem.Value → PySem.Shared → Prop) (s : PySem.Shared) (h : PySem.wpAny M A (PySem.execs [] e) Q E s) : PySem.wpAny M A (PySem.execs [] e) Q E s := by
  w_top off
  first | (walk1; fail) | exact h
end Mine
section
open PySem PySem.W PyProof.Rows PySem.Spec PySem.Calls
set_option linter.unusedVariables false
set_option linter.unusedSimpArgs false
set_option maxRecDepth 100000
set_option maxHeartbeats 8000000
namespace Mine
local macro_rules | `(tactic| walk_at "eval Name") => `(tactic| (refine wpAny_Name (wpAny_loadName_local rfl rfl (by assumption) (by assumption) ?_) (by decide)))
theorem elt_ok {prog : Program} {w : World} {A' : Around} {E' : Value → Shared → Prop} {s₂ : Shared} {C : Addr} {code : Value} {bi : Addr} {env : Env} {m₂ : Str → Option Value} {t : Tok} {p1 p3 p4 p7 p8 : Pos} {a2 b2 a5 b5 a6 b6 a9 b9 : Nat} {gen : Bool} {co : Bool}
    {h₀ : Heap} {p : Program} {loose : List Str} {mean : ExcName → Option Value} {mg mb : Str → Option Value} (X : (Mine.hd.heap_1 w.params).In h₀) (T : Top p loose mean mg mb h₀) (hA : A'.handled = none) (hn : s₂.heap.Ns C m₂) (hm : m₂ "s" = some (.str (Str.ofString "!-") t)) :
    wpAny (model prog w) A' (eval (((((((Expr.Name "s" p1).Attribute "replace" ⟨63, a2, 63, b2⟩).Call [Expr.Constant (Const.str "\\") 0 p3, Expr.Constant (Const.str "\\\\") 0 p4] [] ⟨63, a5, 63, b5⟩).Attribute "replace" ⟨63, a6, 63, b6⟩).Call [Expr.Constant (Const.str "-") 0 p7, Expr.Constant (Const.str "\\-") 0 p8] [] ⟨63, a9, 63, b9⟩))) (genEnv { kind := ScopeKind.function, names := [(".0", NameKind.local), ("s", NameKind.local)], isGenerator := gen, isCoroutine := co } [] C code bi env))
      (fun v s₃ => (∃ t', v = .str ⟨#[33, 92, 45]⟩ t') ∧ Keeps s₂ s₃) E' s₂ := by
  obtain ⟨hp, g, d, tk, os⟩ := s₂
  have F₃ : Fr (default : Heap) C hp m₂ := ⟨hn, fun b o e => absurd e (by intro e; cases e), Nat.zero_le _⟩
  have N₃ : News (default : Heap) C hp [] := News.nil
  k_steps
  refine replace_none (by decide +kernel) ?_
  k_steps
  refine SC.replaceW ?_ ?_ ?_ ?_ ?_ ?_ ?_
  · (refine PySem.W.neN ?_; (try dsimp only); omega)
  · (refine PySem.W.neN ?_; (try dsimp only); omega)
  · (refine PySem.W.neN ?_; (try dsimp only); omega)
  · decide
  · decide +kernel
  · decide +kernel
  intro _ _
  rw [show Txt.replace (Str.ofString "!-") (Str.ofString "-") (Str.ofString "\\-") = ⟨#[33, 92, 45]⟩ from by decide +kernel]
  exact ⟨⟨_, rfl⟩, _, _, rfl, fun _ _ e => e⟩
end Mine
end
-- part WhlE
namespace Mine
theorem calm_WhlE (M : PySem.Model) (A : PySem.Around) (e : PySem.Env) (Q : PySem.Flow → PySem.Shared → Prop) (E : PySem.Value → PySem.Shared → Prop) (s : PySem.Shared) (h : PySem.wpAny M A (PySem.execs [] e) Q E s) : PySem.wpAny M A (PySem.execs [] e) Q E s := by
  w_top off
  first | (walk1; fail) | exact h
end Mine
section
open PySem PySem.W PyProof.Rows PySem.Spec PySem.Calls
set_option linter.unusedVariables false
set_option maxRecDepth 100000
namespace Mine
section
variable {prog : Program} {w : World} {A : Around} {E : Value → Shared → Prop} {s : Shared} {env : Env} {test : PySem.Expr} {body orelse : List Stmt} {Q : Flow → Shared → Prop} {k : Nat}
noncomputable def TwStart (prog : Program) (w : World) (A : Around) (E : Value → Shared → Prop) (env : Env) (test : PySem.Expr) (body orelse : List Stmt) (Q : Flow → Shared → Prop) (s : Shared) : Prop := WhlRest prog w A E env test body orelse Q 0 s
theorem tw_start {pos : Pos} (h : TwStart prog w A E env test body orelse Q s) : wpAny (model prog w) A (exec (.While test body orelse pos) env) Q E s := whl_start 0 h
theorem tw_ind {α : Type} (Inv : List α → Shared → Prop) (stop : ∀ s, Inv [] s → WhlRest prog w A E env test body orelse Q 0 s)
    (turn : ∀ a ts s, Inv (a :: ts) s → (∀ s', Inv ts s' → WhlRest prog w A E env test body orelse Q 0 s') → WhlRest prog w A E env test body orelse Q 0 s) : ∀ ts s, Inv ts s → TwStart prog w A E env test body orelse Q s
  | [], s, h => stop s h
  | a :: ts, s, h => turn a ts s h fun s' h' => tw_ind Inv stop turn ts s' h'
end
inductive Tk where
  | star | ques | blank | dot | cls
noncomputable def Tk.signs : Tk → List Nat
  | .star => [42]
  | .ques => [63]
  | .blank => [32]
  | .dot => [46]
  | .cls => [91, 33, 45, 93]
noncomputable def partV (St : Addr) : Tk → Value → Prop
  | .star, v => v = .ref St
  | .ques, v => ∃ t, v = .str (Str.ofString ".") t
  | .blank, v => ∃ t, v = .str ⟨#[92, 32]⟩ t
  | .dot, v => ∃ t, v = .str ⟨#[92, 46]⟩ t
  | .cls, v => ∃ t, v = .str ⟨#[91, 94, 92, 45, 93]⟩ t
noncomputable def Parts (St : Addr) : List Tk → List Value → Prop
  | [], [] => True
  | t :: ts, v :: vs => partV St t v ∧ Parts St ts vs
  | _, _ => False
theorem Parts.app {St : Addr} {t : Tk} {v : Value} (hv : partV St t v) : ∀ {ts : List Tk} {vs : List Value}, Parts St ts vs → Parts St (ts ++ [t]) (vs ++ [v])
  | [], [], _ => ⟨hv, trivial⟩
  | [], _ :: _, h => h.elim
  | _ :: _, [], h => h.elim
  | a :: ts, b :: vs, h => ⟨h.1, Parts.app hv h.2⟩
theorem Parts.length {St : Addr} : ∀ {ts : List Tk} {vs : List Value}, Parts St ts vs → vs.length = ts.length
  | [], [], _ => rfl
  | [], _ :: _, h => h.elim
  | _ :: _, [], h => h.elim
  | a :: ts, b :: vs, h => by rw [List.length_cons, List.length_cons, Parts.length h.2]
noncomputable def offT (ts : List Tk) : Nat := (ts.flatMap Tk.signs).length
theorem offT_app (ts : List Tk) (t : Tk) : offT (ts ++ [t]) = offT ts + t.signs.length := by simp [offT]
noncomputable def ItemsAt (P : Str) (o : Nat) (l : List Nat) : Prop := o + l.length ≤ P.length ∧ P.length ≤ 1000 ∧ ∀ d c, l[d]? = some c → P.cps[o + d]? = some c
theorem itemsAt_of {P : Str} {done ts : List Tk} {t : Tk} (h : P.cps.toList = (done ++ t :: ts).flatMap Tk.signs) (hn : P.length ≤ 1000) : ItemsAt P (offT done) t.signs := by
  have e : P.cps.toList = done.flatMap Tk.signs ++ (t.signs ++ ts.flatMap Tk.signs) := by rw [h]; simp
  have hl : P.length = P.cps.toList.length := rfl
  refine ⟨by rw [hl, e]; simp [offT], hn, fun d c hd => ?_⟩
  have : P.cps[offT done + d]? = P.cps.toList[offT done + d]? := by simp
  rw [this, e, List.getElem?_append_right (by show (done.flatMap Tk.signs).length ≤ offT done + d; exact Nat.le_add_right _ _)]
  have e2 : offT done + d - (done.flatMap Tk.signs).length = d := by show (done.flatMap Tk.signs).length + d - _ = d; omega
  have hlt : d < t.signs.length := (List.getElem?_eq_some_iff.mp hd).1
  rw [e2, List.getElem?_append_left hlt]
  exact hd
section
variable {prog : Program} {w : World} {A : Around} {E : Value → Shared → Prop} {s : Shared}
theorem item_at {value slice : Expr} {P : Str} {t u : Tok} {o : Nat} {l : List Nat} {c : Nat} {e : Int} {Q : Value → Shared → Prop} (d : Nat) (H : ItemsAt P o l) (he : e = (o : Int) + (d : Int)) (hc : l[d]? = some c) (h : ∀ t' k, Q (.str ⟨#[c]⟩ t') { s with toks := k })
    (hs : subscripted slice false (.str P t) (.int e u) = operate [.str P t, .int e u] (getItem (.str P t) (.int e u)) := by with_unfolding_all rfl)
    (ht : ∀ r, letTemporaryGo value (.str P t) r = pure () := by intro _; with_unfolding_all rfl) :
    wpAny (model prog w) A (subscriptTail value slice (.str P t) (.int e u)) Q E s :=
  item_ofs (j := o + d) (by rw [he]; push_cast; rfl) (H.2.2 d c hc) (Nat.le_trans H.2.1 (by decide)) h hs ht
theorem slice_at {P x : Str} {o : Nat} {l : List Nat} {e e' : Int} (d n : Nat) (H : ItemsAt P o l) (he : e = (o : Int) + (d : Int)) (he' : e' = (o : Int) + (d : Int) + (n : Int)) (hd : d + n ≤ l.length) (hx : ⟨((l.drop d).take n).toArray⟩ = x) : Txt.slice P (some e) (some e') = x := by
  have h1 : e = ((o + d : Nat) : Int) := by rw [he]; push_cast; rfl
  have h2 : e' = ((o + d + n : Nat) : Int) := by rw [he']; push_cast; rfl
  have hl := H.1
  rw [h1, h2, slice_txt (by omega) (by omega), ← hx]
  congr 2
  have hn : o + d + n - (o + d) = n := by omega
  rw [hn]
  refine List.ext_getElem? fun i => ?_
  rw [List.getElem?_take, List.getElem?_take]
  by_cases hi : i < n
  · rw [if_pos hi, if_pos hi, List.getElem?_drop, List.getElem?_drop]
    have hlt : d + i < l.length := by omega
    have := H.2.2 (d + i) l[d + i] (List.getElem?_eq_getElem hlt)
    have e3 : P.cps.toList[o + d + i]? = P.cps[o + (d + i)]? := by rw [← Nat.add_assoc]; simp
    rw [e3, this, List.getElem?_eq_getElem hlt]
  · rw [if_neg hi, if_neg hi]
end
end Mine
end
-- part Tr
namespace Mine
theorem calm_Tr (M : PySem.Model) (A : PySem.Around) (e : PySem.Env) (Q : PySem.Flow → PySem.Shared → Prop) (E : PySem.Value → PySem.Shared → Prop) (s : PySem.Shared) (h : PySem.wpAny M A (PySem.execs [] e) Q E s) : PySem.wpAny M A (PySem.execs [] e) Q E s := by
  w_top off
  first | (walk1; fail) | exact h
end Mine
section
open PySem PySem.W PyProof.Rows PySem.Spec PySem.Calls
set_option linter.unusedVariables false
set_option linter.unusedSimpArgs false
set_option maxRecDepth 100000
set_option maxHeartbeats 12000000
namespace Mine
section
variable {prog : Program} {w : World} {A : Around} {E : Value → Shared → Prop} {s : Shared} {h₀ : Heap} {L : Addr} {m : Str → Option Value} {news : List (Addr × Obj)}
theorem slice_tail_at {value slice : Expr} {P x : Str} {t ui uj : Tok} {o : Nat} {l : List Nat} {e e' : Int} {Q : Value → Shared → Prop} (d n : Nat) (H : ItemsAt P o l) (hF : Fr h₀ L s.heap m) (hN : News h₀ L s.heap news) (he : e = (o : Int) + (d : Int)) (he' : e' = (o : Int) + (d : Int) + (n : Int)) (hd : d + n ≤ l.length)
    (hx : ⟨((l.drop d).take n).toArray⟩ = x) (h : ∀ h' t' k, Fr h₀ L h' m → News h₀ L h' news → Q (.str x t') { s with heap := h', toks := k })
    (hs : subscripted slice false (.str P t) (.ref s.heap.objs.size) = operate [.ref s.heap.objs.size, .str P t] (getItem (.str P t) (.ref s.heap.objs.size)) := by with_unfolding_all rfl)
    (ht : ∀ r, letTemporaryGo value (.str P t) r = pure () := by intro _; with_unfolding_all rfl) :
    wpAny (model prog w) A (subscriptTail value slice (.str P t) (.ref s.heap.objs.size)) Q E { s with heap := s.heap.push { cls := .type "slice", data := .fields #[.int e ui, .int e' uj, .none] } } :=
  slice_strN_ss hF hN (fun h' t' k F N => by rw [slice_at d n H he he' hd hx]; exact h h' t' k F N) hs ht (Nat.le_trans H.2.1 (by decide))
theorem isnot_str_ref {x : Str} {t : Tok} {a : Addr} {Q : Value → Shared → Prop} (h : Q (.bool true) s) : wpAny (model prog w) A (compareOp .IsNot (.str x t) (.ref a)) Q E s :=
  wpAny_bind (m := isSame _ _) (wpAny_of_eq (a := false) (by rfl) (wpAny_pure h))
end
noncomputable def TabOk (tb : Array Value) : Prop := tb = #[] ∨ ∃ a1 a2, tb = #[rawInt 63, rawInt 37, .ref a1, rawInt 64, rawInt 46, .ref a2]
noncomputable def TInv (h₀ : Heap) (L : Addr) (s₀ : Shared) (P : Str) (tP tQ : Tok) (St D q : Addr) (all : List Tk) (ts : List Tk) (s' : Shared) : Prop :=
  ∃ done vs k tb h' tk g' m ti tn, all = done ++ ts ∧ Parts St done vs ∧ s' = { s₀ with heap := h', gens := g', toks := tk } ∧ Fr h₀ L h' m ∧ News h₀ L h' [(D, listOf vs.toArray k), (q, bmObj D), (67, tabObj tb)] ∧ TabOk tb ∧ AllBare g' ∧
    m (Str.ofString "pat") = some (.str P tP) ∧ m (Str.ofString "STAR") = some (.ref St) ∧ m (Str.ofString "QUESTION_MARK") = some (.str (Str.ofString ".") tQ) ∧ m (Str.ofString "res") = some (.ref D) ∧ m (Str.ofString "add") = some (.ref q) ∧
    m (Str.ofString "n") = some (.int (P.length : Int) tn) ∧ m (Str.ofString "i") = some (.int (offT done : Int) ti)
theorem len_le_off : ∀ ts : List Tk, ts.length ≤ offT ts
  | [] => Nat.le_refl _
  | t :: ts => by
    have h := len_le_off ts
    have h2 : 1 ≤ t.signs.length := by cases t <;> decide
    have e : offT (t :: ts) = t.signs.length + offT ts := by simp [offT]
    rw [e, List.length_cons]
    omega
theorem mem_of3 {a b c : Addr × Obj} {l : List (Addr × Obj)} (ha : a ∈ l) (hb : b ∈ l) (hc : c ∈ l) : ∀ q ∈ [a, b, c], q ∈ l := fun q hq => by
  rcases List.mem_cons.mp hq with rfl | hq
  · exact ha
  rcases List.mem_cons.mp hq with rfl | hq
  · exact hb
  rw [List.mem_singleton.mp hq]
  exact hc
theorem TInv.next {h₀ : Heap} {L : Addr} {s₀ : Shared} {P : Str} {tP tQ : Tok} {St D q : Addr} {all done ts : List Tk} {t : Tk} {vs : List Value} {v : Value} {vs' : Array Value} {k : Nat} {tb : Array Value} {h' : Heap} {tk : Nat} {g' : Array GenState} {m : Str → Option Value} {news : List (Addr × Obj)} {ti tn : Tok} {i : Int} {s' : Shared}
    (hall : all = done ++ t :: ts) (hp : Parts St done vs) (hv : partV St t v) (hs : s' = { s₀ with heap := h', gens := g', toks := tk }) (F : Fr h₀ L h' m) (N : News h₀ L h' news) (hm : ∀ y ∈ [(D, listOf vs' k), (q, bmObj D), (67, tabObj tb)], y ∈ news) (hT : TabOk tb) (hb : AllBare g') (hvs : vs' = (vs ++ [v]).toArray)
    (e1 : m (Str.ofString "pat") = some (.str P tP)) (e2 : m (Str.ofString "STAR") = some (.ref St)) (e3 : m (Str.ofString "QUESTION_MARK") = some (.str (Str.ofString ".") tQ)) (e4 : m (Str.ofString "res") = some (.ref D)) (e5 : m (Str.ofString "add") = some (.ref q))
    (e6 : m (Str.ofString "n") = some (.int (P.length : Int) tn)) (e7 : m (Str.ofString "i") = some (.int i ti)) (hi : i = (offT (done ++ [t]) : Int)) : TInv h₀ L s₀ P tP tQ St D q all ts s' := by
  subst hvs hi
  exact ⟨done ++ [t], vs ++ [v], k, tb, h', tk, g', m, ti, tn, by rw [hall]; simp, Parts.app hv hp, hs, F, PyProof.Rows.News.perm N hm, hT, hb, e1, e2, e3, e4, e5, e6, e7⟩
noncomputable def TEnd (h₀ : Heap) (St : Addr) (all : List Tk) (s : Shared) (r : Value) (s' : Shared) : Prop :=
  ∃ D vs k tb' h' tk g', r = .ref D ∧ Parts St all vs ∧ s' = { s with heap := h', gens := g', toks := tk } ∧ TabOk tb' ∧ AllBare g' ∧ h'.get? D = some (listOf vs.toArray k) ∧ h₀.get? D = none ∧ (∀ b o, h₀.get? b = some o → h'.get? b = some o) ∧ h'.get? 67 = some (tabObj tb')
theorem part_cls {St : Addr} {x : Str} {t : Tok} (e : x = ⟨#[91, 94, 92, 45, 93]⟩) : partV St .cls (.str x t) := ⟨t, by rw [e]⟩
theorem mform7 {m : Str → Option Value} {a1 a2 a3 a4 a5 a6 a7 : Str} {v1 v2 v3 v4 v5 v6 v7 : Value} (h1 : m a1 = some v1) (h2 : m a2 = some v2) (h3 : m a3 = some v3) (h4 : m a4 = some v4) (h5 : m a5 = some v5) (h6 : m a6 = some v6) (h7 : m a7 = some v7) :
    m = fun y => if y = a1 then some v1 else if y = a2 then some v2 else if y = a3 then some v3 else if y = a4 then some v4 else if y = a5 then some v5 else if y = a6 then some v6 else if y = a7 then some v7 else m y := by
  funext y
  split
  · rename_i h; rw [h, h1]
  split
  · rename_i h; rw [h, h2]
  split
  · rename_i h; rw [h, h3]
  split
  · rename_i h; rw [h, h4]
  split
  · rename_i h; rw [h, h5]
  split
  · rename_i h; rw [h, h6]
  split
  · rename_i h; rw [h, h7]
  rfl
local macro_rules | `(tactic| walk_at "getAttr ref") => `(tactic| (k_here; (with_reducible show wpAny _ _ (getAttr (Value.ref _) (PySem.Str.ofString "append") _) _ _ _); k_dflt (refine' bm_get ?F ?N ?m ?_; (case F => k_asm); (case N => k_asm); (case m => k_mem); k_whole); intro q' h' tk' F' N' l1; (try k_lt l1)))
local macro_rules | `(tactic| walk_at "callWith ref") => `(tactic| (k_here; k_dflt (refine' callWith_bm ?k1 ?k3 ?_; (case k1 => k_asm); (case k3 => k_mem); k_whole)))
local macro_rules | `(tactic| walk_at "And") => `(tactic| ((with_reducible show BmP _ _ _ ∧ _); (rename News _ _ _ _ => nw'); refine ⟨bmP nw' (by k_mem), ?_⟩; try dsimp only [List.nil_append, List.cons_append]))
local macro_rules | `(tactic| walk_at "call ref") => `(tactic| (k_here; (with_reducible show wpAny _ _ (call (Value.ref _) [_]) _ _ _); k_dflt (refine' bm_call ?k1 ?k2 ?kb ?k3 ?_ ?z; (case k1 => k_asm); (case k2 => k_asm); (case kb => k_mem); (case k3 => k_upd); (case z => size_fits); k_whole); intro h' F' N'; (try k_sweep)))
local macro_rules | `(tactic| walk_at "subscriptTail Name Slice str ref") => `(tactic| ((with_reducible show wpAny _ _ (subscriptTail _ (Expr.Slice (some _) (some _) none _) (Value.str _ _) (Value.ref _)) _ _ _); (with_reducible rename Fr _ _ _ _ => F'); (with_reducible rename News _ _ _ _ => N'); (refine slice_tail_at (s := ⟨_, _, _, _, _⟩) (x := PySem.Str.ofString "!-") 1 2 ‹ItemsAt _ _ _› F' N' (by omega) (by omega) (by decide) (by decide +kernel) ?_); intro _ _ _ _ _))
local macro_rules | `(tactic| walk_at "compareOp IsNot str ref") => `(tactic| (refine isnot_str_ref ?_))
local macro_rules | `(tactic| walk_at "subscriptTail Name Name str int") => `(tactic| ((first | refine item_at 0 ‹ItemsAt _ _ _› (by omega) rfl ?_ | refine item_at 1 ‹ItemsAt _ _ _› (by omega) rfl ?_ | refine item_at 2 ‹ItemsAt _ _ _› (by omega) rfl ?_ | refine item_at 3 ‹ItemsAt _ _ _› (by omega) rfl ?_); intro _ _))
local macro_rules | `(tactic| walk_at "exec While Compare") => `(tactic| (k_here; refine tw_start ?_))
local macro_rules | `(tactic| walk_at "exec While BoolOp") => `(tactic| (k_here; k_dflt (refine whl_start 100 ?_)))
local macro_rules | `(tactic| walk_at "exec While Constant") => `(tactic| (k_here; k_dflt (refine whl_start 100 ?_)))
local macro_rules | `(tactic| walk_at "WhlIf") => `(tactic| (first | (refine WhlIf.yes (by simp only [decide_eq_true_eq]; omega) ?_) | (refine WhlIf.no (by simp only [decide_eq_false_iff_not]; omega) ?_) | (refine WhlIf.yes (by decide +kernel) ?_) | (refine WhlIf.no (by decide +kernel) ?_)))
local macro_rules | `(tactic| walk_at "WhlRest") => `(tactic| (refine (‹∀ s', TInv _ _ _ _ _ _ _ _ _ _ _ s' → WhlRest _ _ _ _ _ _ _ _ _ _ s'›) _ ?_))
local macro_rules | `(tactic| walk_at "call builtin:str.find") => `(tactic| (refine call_find4_none (occ_empty _ _ (Nat.lt_succ_of_le (Nat.min_le_left _ _))) ?_; intro _ _))
local macro_rules | `(tactic| walk_at "ite") => `(tactic| (first | (k_closed; (first | refine ite_pos (by decide +kernel) ?_ | refine ite_neg (by decide +kernel) ?_)) | refine ite_pos (by simp only [decide_eq_true_eq]; omega) ?_ | refine ite_neg (by simp only [decide_eq_true_eq]; omega) ?_))
local macro_rules | `(tactic| walk_at "call builtin:str.join") => `(tactic| ((rename GenRdy _ _ _ _ _ _ _ _ _ => gr'); refine join_one gr' (by assumption) (by assumption) (by (try dsimp only); exact PyProof.Rows.AllBare.push (by assumption) (by assumption)) (by decide +kernel) ?_; clear gr'; intro t' h' tk' g' F' N' b'))
local macro_rules | `(tactic| walk_at "getMethod ref") => `(tactic| (with_reducible show wpAny _ _ (getMethod (Value.ref 53) _ _) _ _ _; refine Pat3.method (Pat3.keeps (pat3 (by assumption)) (Fr.keep (by assumption))) ?_))
local macro_rules | `(tactic| walk_at "call builtin:re.Pattern.sub") => `(tactic| ((with_reducible show wpAny _ _ (call _ [Value.ref 53, Value.ref _, Value.str _ _]) _ _ _); (rename Fr _ _ _ _ => fr'); (rename News _ _ _ _ => nw'); refine sub_call3 (Pat3.keeps (pat3 (by assumption)) (Fr.keep fr')) (News.get nw' (by k_mem)) rfl rfl ?_; intro t' h' tk' hk'; have F' := Fr.keeps fr' hk'; have N' := News.grown nw' hk'; clear fr' nw' hk'))
structure Gh (h₀ h : Heap) (tb : Array Value) : Prop where
  sub : ∀ b o, h₀.get? b = some o → h.get? b = some o
  size : h₀.objs.size = h.objs.size
  sup : ∀ b o, b ≠ 67 → h.get? b = some o → h₀.get? b = some o
  no : h₀.get? 67 = none
  tab : h.get? 67 = some (tabObj tb)
theorem Gh.fr {h₀ h h' : Heap} {tb : Array Value} {L : Addr} {m : Str → Option Value} (G : Gh h₀ h tb) (F : Fr h L h' m) : Fr h₀ L h' m := ⟨F.ns, fun b o e => F.keep b o (G.sub b o e), G.size ▸ F.above⟩
theorem Gh.news {h₀ h h' : Heap} {tb : Array Value} {L : Addr} {m : Str → Option Value} (G : Gh h₀ h tb) (F : Fr h L h' m) : News h₀ L h' [(67, tabObj tb)] := fun q hq => by
  rw [List.mem_singleton.mp hq]
  refine ⟨F.keep _ _ G.tab, fun e => ?_, G.no⟩
  have h1 := Heap.lt_size G.tab
  have h2 := F.above
  have e' : (67 : Nat) = L := e
  rw [← e'] at h2
  exact absurd h2 (Nat.not_le.mpr h1)
section
variable (w : World) (p : Program) (loose : List Str) (mean : ExcName → Option Value) (mg mb : Str → Option Value)
theorem t_all (all : List Tk) (P : Str) (hP : P.cps.toList = all.flatMap Tk.signs) (hn : P.length ≤ 1000) (hstar : ∀ done ts, all = done ++ Tk.star :: ts → done = [] ∨ done = [Tk.dot]) (St : Addr) (t t' : Tok) (dp u : Nat) (gd : Option (List Code)) (fr : Option (List Env)) (s : Shared) (h₀ : Heap) (tb : Array Value) (E : Value → Shared → Prop) (X : (Mine.hd.heap_1 w.params).In h₀) (T : Top p loose mean mg mb h₀) (G : Gh h₀ s.heap tb) (hT : TabOk tb) (C : CodeHd h₀ 71 67) (hb : AllBare s.gens)
    (hdp : dp + 10 < recursionLimit) (hun : u + 100 < cLine) :
    wpAny (model PR w) (Ar dp u gd fr) (call (.ref 72) [.str P t, .ref St, .str (Str.ofString ".") t']) (fun r s' => TEnd h₀ St all s r s') E s := by
  have X' := X.keeps G.sub
  have T' := T.keeps G.sub
  (refine wpAny_call ?_; k_dflt (refine' enterP (K := Mine.hd.heap_1 _) ?kX ?kT ?k6 ?k7 ?k8 ?k9 ?kB ?_ ?c2 ?c3 ?c4 ?c5; (case kX => assumption); (case kT => assumption); (case k6 => k_is); (case k7 => k_is); (case k8 => ((try simp only [Ar]); omega)); (case k9 => exact BindsTo.of_eq rfl); (case c5 => decide); (case kB => exact locs rfl); (case c2 => exact rfl); (case c3 => exact rfl); (case c4 => exact rfl); k_whole; intro _ _ _ _ _ _; (try dsimp only); (try k_fold)))
  (rename Fr _ _ _ _ => F₁)
  (rename News _ _ _ _ => N₁)
  have F₂ := G.fr F₁
  have N₂ := G.news F₁
  clear F₁ N₁ X' T'
  k_steps
  (rename Fr _ _ _ _ => F₁)
  (rename News _ _ _ _ => N₁)
  refine tw_ind (TInv h₀ _ s P t t' St _ _ all) ?_ ?_ all _ ⟨[], [], 0, tb, _, _, _, _, _, _, rfl, trivial, rfl, F₁, ?_, hT, hb, rfl, rfl, rfl, rfl, rfl, rfl, rfl⟩
  · rintro s₂ ⟨done, vs, k, tb', h', tk, g', m, ti, tn, hall, hpt, rfl, F, N, hT', hb', e1, e2, e3, e4, e5, e6, e7⟩
    clear F₁ N₁
    have F₃ := mform7 e1 e2 e3 e4 e5 e6 e7 ▸ F
    clear F
    have hoff : offT done = P.length := by
      have h1 : P.length = P.cps.toList.length := rfl
      rw [h1, hP, hall, List.append_nil]; rfl
    refine whl_turn (k := 0) (by passes_own) ?_
    k_steps
    (rename Fr _ _ _ _ => F₁)
    (rename News _ _ _ _ => N₁)
    rw [List.append_nil] at hall
    subst hall
    exact ⟨_, vs, k, tb', _, _, g', rfl, hpt, rfl, hT', hb', N₁.get (by k_mem), N₁.fresh (by k_mem), F₁.keep, N₁.get (by k_mem)⟩
  · rintro a ts s₂ ⟨done, vs, k, tb', h', tk, g', m, ti, tn, hall, hpt, rfl, F, N, hT', hb', e1, e2, e3, e4, e5, e6, e7⟩ IH
    clear F₁ N₁
    have HI := itemsAt_of (hall ▸ hP) hn
    have hlen := Parts.length hpt
    have F₃ := mform7 e1 e2 e3 e4 e5 e6 e7 ▸ F
    clear F
    have hvs : vs.toArray.size ≤ 1000 := by
      have h1 : vs.toArray.size = vs.length := List.size_toArray
      have h2 := len_le_off done
      have h3 := HI.1
      omega
    cases a with
    | ques =>
      have HI' : offT done + 1 ≤ P.length := HI.1
      refine whl_turn (k := 0) (by passes_own) ?_
      k_steps
      · (rename News _ _ _ _ => N₁)
        exact bmP N₁ (by k_mem)
      (rename Fr _ _ _ _ => F₁)
      (rename News _ _ _ _ => N₁)
      exact TInv.next hall hpt ⟨_, rfl⟩ rfl F₁ N₁ (by exact mem_of3 (by k_mem) (by k_mem) (by k_mem)) hT' hb' (by rw [List.push_toArray]) rfl rfl rfl rfl rfl rfl rfl (by rw [offT_app]; rfl)
    | blank =>
      have HI' : offT done + 1 ≤ P.length := HI.1
      refine whl_turn (k := 0) (by passes_own) ?_
      k_steps
      (rename Fr _ _ _ _ => F₁)
      (rename News _ _ _ _ => N₁)
      refine useC0 (c_escape w _ loose mean mg mb 32 92 32 (by decide) (at55_blank _) _) X ‹_› F₁ N₁ rfl (by show dp + 1 + 3 < _; omega) (by show u + 3 + 40 < _; omega) ?_
      rintro r h' tk ⟨tr, rfl⟩ F₃ N₃
      clear F₁ N₁
      k_steps
      · (rename News _ _ _ _ => N₁)
        exact bmP N₁ (by k_mem)
      (rename Fr _ _ _ _ => F₁)
      (rename News _ _ _ _ => N₁)
      exact TInv.next hall hpt ⟨_, rfl⟩ rfl F₁ N₁ (by exact mem_of3 (by k_mem) (by k_mem) (by k_mem)) hT' hb' (by rw [List.push_toArray]) rfl rfl rfl rfl rfl rfl rfl (by rw [offT_app]; rfl)
    | dot =>
      have HI' : offT done + 1 ≤ P.length := HI.1
      refine whl_turn (k := 0) (by passes_own) ?_
      k_steps
      (rename Fr _ _ _ _ => F₁)
      (rename News _ _ _ _ => N₁)
      refine useC0 (c_escape w _ loose mean mg mb 46 92 46 (by decide) (at55_dot _) _) X ‹_› F₁ N₁ rfl (by show dp + 1 + 3 < _; omega) (by show u + 3 + 40 < _; omega) ?_
      rintro r h' tk ⟨tr, rfl⟩ F₃ N₃
      clear F₁ N₁
      k_steps
      · (rename News _ _ _ _ => N₁)
        exact bmP N₁ (by k_mem)
      (rename Fr _ _ _ _ => F₁)
      (rename News _ _ _ _ => N₁)
      exact TInv.next hall hpt ⟨_, rfl⟩ rfl F₁ N₁ (by exact mem_of3 (by k_mem) (by k_mem) (by k_mem)) hT' hb' (by rw [List.push_toArray]) rfl rfl rfl rfl rfl rfl rfl (by rw [offT_app]; rfl)
    | star =>
      have HI' : offT done + 1 ≤ P.length := HI.1
      rcases hstar done ts hall with rfl | rfl
      · have hv0 : vs = [] := List.length_eq_zero_iff.mp hlen
        subst hv0
        refine whl_turn (k := 0) (by passes_own) ?_
        k_steps
        · (rename News _ _ _ _ => N₁)
          exact bmP N₁ (by k_mem)
        (rename Fr _ _ _ _ => F₁)
        (rename News _ _ _ _ => N₁)
        exact TInv.next hall hpt rfl rfl F₁ N₁ (by exact mem_of3 (by k_mem) (by k_mem) (by k_mem)) hT' hb' (by rw [List.push_toArray]) rfl rfl rfl rfl rfl rfl rfl (by rw [offT_app]; rfl)
      · obtain ⟨v1, rfl, hv1⟩ : ∃ v, vs = [v] ∧ partV St .dot v := by
          match vs, hpt with
          | [v], hp => exact ⟨v, rfl, hp.1⟩
        obtain ⟨t1, rfl⟩ := hv1
        refine whl_turn (k := 0) (by passes_own) ?_
        k_steps
        · (rename News _ _ _ _ => N₁)
          exact bmP N₁ (by k_mem)
        (rename Fr _ _ _ _ => F₁)
        (rename News _ _ _ _ => N₁)
        exact TInv.next hall hpt rfl rfl F₁ N₁ (by exact mem_of3 (by k_mem) (by k_mem) (by k_mem)) hT' hb' (by rw [List.push_toArray]) rfl rfl rfl rfl rfl rfl rfl (by rw [offT_app]; rfl)
    | cls =>
      have HI' : offT done + 4 ≤ P.length := HI.1
      refine whl_turn (k := 0) (by passes_own) ?_
      k_steps
      (rename Fr _ _ _ _ => F₁)
      (rename News _ _ _ _ => N₁)
      rcases hT' with rfl | ⟨a1, a2, rfl⟩
      · skip
        refine' gen_one (P := 67) (y := Str.ofString "!-") (y' := ⟨#[33, 92, 45]⟩) F₁ N₁ T ?c1 ?c2 ?c3 ?c4 hb' ?c5 ?c6 ?c7 ?c8 ?c9 ?c10 ?c11 ?c12 (nameX_L F₁ rfl ⟨rfl, rfl⟩ rfl rfl) ?c13 ?c14 ?c15 ?c16
        case c1 => exact rfl
        case c2 => k_mem
        case c3 => k_updF
        case c4 => k_ne
        case c5 => exact rfl
        case c6 => exact rfl
        case c7 => exact rfl
        case c8 => decide
        case c9 => exact rfl
        case c10 => exact rfl
        case c11 => exact rfl
        case c12 => show dp + 1 < _; omega
        case c13 => exact codeStep_miss rfl (C.keeps F₁.keep) (N₁.get (by k_mem)) trivial rfl
        case c14 =>
          intro A' E' t₂ s₂ C₂ code bi m₂ hA hn hm
          exact elt_ok X T hA hn hm
        case c15 => intro _; rfl
        case c16 =>
          intro a h₅ tk gs ps' GR hgs hT F₃ N₃ hlt
          clear F₁ N₁
          obtain ⟨c', rfl⟩ := hT
          k_steps
          · (rename News _ _ _ _ => N₁)
            exact bmP N₁ (by k_mem)
          (rename Fr _ _ _ _ => F₁)
          (rename News _ _ _ _ => N₁)
          refine TInv.next hall hpt ?hv rfl F₁ N₁ (by exact mem_of3 (by k_mem) (by k_mem) (by k_mem)) (.inr ⟨_, _, rfl⟩) (by assumption) (by rw [List.push_toArray]) rfl rfl rfl rfl rfl rfl rfl (by rw [offT_app]; rfl)
          case hv => exact part_cls (by decide +kernel)
      · skip
        refine' gen_one (P := 67) (y := Str.ofString "!-") (y' := ⟨#[33, 92, 45]⟩) F₁ N₁ T ?c1 ?c2 ?c3 ?c4 hb' ?c5 ?c6 ?c7 ?c8 ?c9 ?c10 ?c11 ?c12 (nameX_L F₁ rfl ⟨rfl, rfl⟩ rfl rfl) ?c13 ?c14 ?c15 ?c16
        case c1 => exact rfl
        case c2 => k_mem
        case c3 => k_updF
        case c4 => k_ne
        case c5 => exact rfl
        case c6 => exact rfl
        case c7 => exact rfl
        case c8 => decide
        case c9 => exact rfl
        case c10 => exact rfl
        case c11 => exact rfl
        case c12 => show dp + 1 < _; omega
        case c13 => exact codeStep_hit rfl (C.keeps F₁.keep) (N₁.get (by k_mem)) trivial rfl
        case c14 =>
          intro A' E' t₂ s₂ C₂ code bi m₂ hA hn hm
          exact elt_ok X T hA hn hm
        case c15 => intro _; rfl
        case c16 =>
          intro a h₅ tk gs ps' GR hgs hT F₃ N₃ hlt
          clear F₁ N₁
          obtain rfl := hT
          k_steps
          · (rename News _ _ _ _ => N₁)
            exact bmP N₁ (by k_mem)
          (rename Fr _ _ _ _ => F₁)
          (rename News _ _ _ _ => N₁)
          refine TInv.next hall hpt ?hv rfl F₁ N₁ (by exact mem_of3 (by k_mem) (by k_mem) (by k_mem)) (.inr ⟨_, _, rfl⟩) (by assumption) (by rw [List.push_toArray]) rfl rfl rfl rfl rfl rfl rfl (by rw [offT_app]; rfl)
          case hv => exact part_cls (by decide +kernel)
  · exact PyProof.Rows.News.perm N₁ (by exact mem_of3 (by k_mem) (by k_mem) (by k_mem))
end
end Mine
end
-- part LoopL
namespace Mine
theorem calm_LoopL (M : PySem.Model) (A : PySem.Around) (e : PySem.Env) (Q : PySem.Flow → PySem.Shared → Prop) (E : PySem.Value → PySem.Shared → Prop) (s : PySem.Shared) (h : PySem.wpAny M A (PySem.execs [] e) Q E s) : PySem.wpAny M A (PySem.execs [] e) Q E s := by
  w_top off
  first | (walk1; fail) | exact h
end Mine
section
open PySem PySem.W PyProof.Rows PySem.Spec PySem.Calls PyProof.V
open AutoSeq1 (wpAny_loadPart')
set_option linter.unusedVariables false
set_option maxRecDepth 100000
namespace Mine
section
variable {prog : Program} {w : World} {A : Around} {E : Value → Shared → Prop} {s : Shared} {env : Env} {h₀ : Heap} {target : Expr} {body orelse : List Stmt} {Q : Flow → Shared → Prop}
theorem TurnsF.mk {I : Addr} {ws : List Addr} {fix : List (Addr × Obj)} {n : Nat} {P : Nat → Value → Heap → Prop} {m : Str → Option Value} {news : List (Addr × Obj)} {s₂ : Shared}
    (V : RunsF prog w A h₀ env.locals target I ws fix n P s₂.heap) (F : Fr h₀ env.locals s₂.heap m) (N : News h₀ env.locals s₂.heap news) (hnw : ∀ p ∈ news, p.1 ∉ ws)
    (J : Nat → (Str → Option Value) → List (Addr × Obj) → Prop) (hfix : ∀ i m news, J i m news → ∀ q ∈ fix, q ∈ news) (h0 : J 0 m news)
    (step : ∀ i v m₁ news₁ h₁ tk₁ its, i < n → P i v h₁ → J i m₁ news₁ → its.length = ws.length → (∀ p ∈ news₁, p.1 ∉ its.map (·.1)) → Fr h₀ env.locals h₁ m₁ → News h₀ env.locals h₁ (its ++ news₁) →
      wpAny (model prog w) A (assign target env v) (fun _ s₃ => wpAny (model prog w) A (execs body env) (StepE h₀ env.locals its (J (i + 1)) { s₂ with heap := h₁, toks := tk₁ } Q) E s₃) E { s₂ with heap := h₁, toks := tk₁ })
    (helse : ∀ h' tk m' news', Fr h₀ env.locals h' m' → News h₀ env.locals h' news' → J n m' news' → wpAny (model prog w) A (execs orelse env) Q E { s₂ with heap := h', toks := tk }) :
    TurnsF prog w A h₀ env target body orelse Q E (.ref I) s₂ := by
  refine ⟨I, ws, fix, n, P, m, news, V, J, rfl, hnw, F, N, hfix, h0, ?_, ?_⟩
  · intro i v m₁ news₁ h₁ tk₁ its hi hP hJ him hno F₁ N₁
    exact step i v m₁ news₁ h₁ tk₁ its hi hP hJ (by rw [← him, List.length_map]) (fun p hp => him ▸ hno p hp) F₁ N₁
  · intro h' tk m' news' F' N' _ hJ
    exact helse h' tk m' news' F' N' hJ
theorem StepE.end {L : Addr} {its news' : List (Addr × Obj)} {J : (Str → Option Value) → List (Addr × Obj) → Prop} {s₁ : Shared} {h' : Heap} {tk : Nat} {m : Str → Option Value} {all : List (Addr × Obj)}
    (F : Fr h₀ L h' m) (N : News h₀ L h' all) (hi : ∀ q ∈ its, q ∈ all) (hn : ∀ q ∈ news', q ∈ all) (hr : ∀ p ∈ news', p.1 ∉ its.map (·.1)) (h : J m news') : StepE h₀ L its J s₁ Q .next { s₁ with heap := h', toks := tk } :=
  ⟨h', tk, m, news', rfl, F, fun q hq => by
    rcases List.mem_append.mp hq with hq | hq
    · exact N q (hi q hq)
    · exact N q (hn q hq), hr, h⟩
noncomputable def listRunsF {hp : Heap} {m : Str → Option Value} {ax : Addr} {items : Array Value} {fix : List (Addr × Obj)} (hh : A.handled = none) (F : Fr h₀ env.locals hp m) (ht : hp.IsList ax items) (hw : (∃ o, h₀.get? ax = some o) ∨ ∃ o, (ax, o) ∈ fix) :
    RunsF prog w A h₀ env.locals target hp.objs.size [hp.objs.size] fix items.size (fun i v _ => items[i]? = some v) (hp.push { cls := .type "list_iterator", data := .fields #[.ref ax, .int 0 0] }) where
  fp := [hp.objs.size, ax]
  wr := [hp.objs.size]
  Md := fun i v h => items[i]? = some v ∧ (h.IsListIter hp.objs.size ax (i + 1) ∧ h.IsList ax items)
  St := fun i h => h.IsListIter hp.objs.size ax i ∧ h.IsList ax items
  W := KTurns.ofWalks (Walks.list hh hp.objs.size ax (by
    obtain ⟨o, ho, _⟩ := ht
    exact Nat.ne_of_lt (Heap.lt_size ho)) items) fun i v s Q E st q => letGo_listiter st.1 q
  hws := fun b hb => by
    rw [List.mem_singleton.mp hb]
    exact ⟨(ktu_new F (Nat.le_refl _)), Nat.ne_of_gt F.ns.lt⟩
  hwr := fun b hb => hb
  hfp := fun b hb => by
    rcases List.mem_cons.mp hb with rfl | hb
    · exact .inl (List.mem_cons_self ..)
    · rw [List.mem_singleton.mp hb]
      exact .inr hw
  hlive := fun i h st b hb => by
    obtain ⟨o, ho, _⟩ := st.1
    rw [List.mem_singleton.mp hb]
    exact ⟨o, ho⟩
  hst := by
    obtain ⟨o, ho, r⟩ := ht
    exact ⟨⟨_, Heap.get?_push_size _ rfl, rfl, rfl⟩, ⟨o, Heap.get?_push_of_some _ ho, r⟩⟩
end
section
variable {prog : Program} {w : World} {A : Around} {s : Shared} {K : Frag} {mg mb : Str → Option Value} {p : Program} {loose : List Str} {mean : ExcName → Option Value}
theorem enterC {R : Result → Shared → Prop} {name qual : Str} {params : Arguments} {body : List Stmt} {scope : Scope} {dV kV doc pm cdv ct oc : Value} {an od : Option Addr} {osl : Array (Option Value)} {f : Addr} {args : Args} {binds : List (Str × Value)}
    (X : K.In s.heap) (T : Top p loose mean mg mb s.heap)
    (ho : K.lookup f = some ⟨oc, od, .func (fnOf name qual params body scope dV kV doc pm an cdv ct), osl⟩) (hcd : codeIn K cdv qual = true) (hroom : A.depth < recursionLimit)
    (hbind : BindsTo s (fnOf name qual params body scope dV kV doc pm an cdv ct) args binds) (hkind : (binds.all fun y => scope.names.lookup y.1 == some .local || scope.names.lookup y.1 == some .cell) = true)
    (hnd : ((cellsFrom 0 scope.names []).map (·.1)).Nodup)
    (h : ∀ L' h₁ tk cells, Fr s.heap L' h₁ (bindL (envOfC qual scope L' f cdv).kindOf binds fun _ => none) → News s.heap L' h₁ cells →
      CellsAre (bindC (envOfC qual scope L' f cdv).kindOf binds fun _ => none) (cellsFrom (L' + 1) scope.names []) cells →
      wpAny (model prog w) (A.deeper (envOfC qual scope L' f cdv)) (execs body (envOfC qual scope L' f cdv))
        (fun fl s' => R (.ok (.ret (match fl with | .ret v => v | _ => .none))) s')
        (fun e s' => wpAny (model prog w) (A.deeper (envOfC qual scope L' f cdv)) (leaving (envOfC qual scope L' f cdv) e) (fun _ s'' => R (.error e) s'') (fun e' s'' => R (.error e') s'') s')
        { s with heap := h₁, toks := tk })
    (hco : scope.isCoroutine = false) (hgen : scope.isGenerator = false) (hk : scope.kind = .function) : codeAny (model prog w) A (.call (.ref f) args) R s := by
  refine codeAny_call_function hroom (X _ _ ho) rfl hco hgen rfl (codeRec_of X hcd) (hbind _ _ _ _ ?_)
  refine wpAny_newFunctionEnv_cells hk (kindsX hkind _) fun env' he s' x => ?_
  subst he
  refine ⟨T.nolimit.keeps x.toInCall.keep, codeAny_func ?_⟩
  obtain ⟨h₁, tk, rfl, _⟩ := x.done
  obtain ⟨cells, NC, Y⟩ := Cl.news (h₀ := s.heap) (Nat.le_refl _) fun n c hm => ⟨x.cell n c (lookup_of_mem_nodup (cellsFrom_names scope.names 0 (s.heap.objs.size + 1) [] [] rfl ▸ hnd) hm), x.above n c hm⟩
  exact h s.heap.objs.size h₁ tk cells ⟨x.toInCall.ns, x.toInCall.keep, Nat.le_refl _⟩ NC Y
end
end Mine
end
-- part LoopT
namespace Mine
theorem calm_LoopT (M : PySem.Model) (A : PySem.Around) (e : PySem.Env) (Q : PySem.Flow → PySem.Shared → Prop) (E : PySem.Value → PySem.Shared → Prop) (s : PySem.Shared) (h : PySem.wpAny M A (PySem.execs [] e) Q E s) : PySem.wpAny M A (PySem.execs [] e) Q E s := by
  w_top off
  first | (walk1; fail) | exact h
end Mine
section
open PySem PySem.W PyProof.Rows PySem.Spec PySem.Calls PyProof.V
set_option linter.unusedVariables false
set_option maxRecDepth 100000
namespace Mine
section
variable {prog : Program} {w : World} {A : Around} {E : Value → Shared → Prop} {s : Shared} {env : Env} {h₀ : Heap} {target : Expr} {body orelse : List Stmt} {Q : Flow → Shared → Prop}
theorem StepE.of_false {L : Addr} {its : List (Addr × Obj)} {J : (Str → Option Value) → List (Addr × Obj) → Prop} {s₁ s₂ : Shared} : ∀ {f : Flow}, StepE h₀ L its J s₁ (fun _ _ => False) f s₂ → StepE h₀ L its J s₁ Q f s₂
  | .ret _, h => h.elim
  | .brk, h => h.elim
  | .cont, h => h
  | .next, h => h
theorem body_false {L : Addr} {its : List (Addr × Obj)} {J : (Str → Option Value) → List (Addr × Obj) → Prop} {s₁ s₀ : Shared} {v : Value}
    (h : wpAny (model prog w) A (assign target env v) (fun _ s₃ => wpAny (model prog w) A (execs body env) (StepE h₀ L its J s₁ fun _ _ => False) E s₃) E s₀) :
    wpAny (model prog w) A (assign target env v) (fun _ s₃ => wpAny (model prog w) A (execs body env) (StepE h₀ L its J s₁ Q) E s₃) E s₀ :=
  wpAny_mono h (fun _ _ h => wpAny_mono h (fun _ _ h => StepE.of_false h) fun _ _ e => e) fun _ _ e => e
noncomputable def OffA (D : Nat) (l : List Nat) : Prop := ∀ a ∈ l, @Ne Nat a D
theorem OffA.l {D a : Nat} {l : List Nat} (h : OffA D l) (hm : a ∈ l) : @Ne Nat a D := h a hm
theorem OffA.r {D a : Nat} {l : List Nat} (h : OffA D l) (hm : a ∈ l) : @Ne Nat D a := (h a hm).symm
theorem OffA.cons {D a : Nat} {l : List Nat} (h : @Ne Nat a D) (t : OffA D l) : OffA D (a :: l) := fun b hb => by
  rcases List.mem_cons.mp hb with rfl | hb
  · exact h
  · exact t b hb
theorem OffA.nil {D : Nat} : OffA D [] := fun a ha => nomatch ha
theorem OffA.tail {D a : Nat} {l : List Nat} (h : OffA D (a :: l)) : OffA D l := fun b hb => h b (List.mem_cons_of_mem _ hb)
noncomputable def keysOf : List (Addr × Obj) → List Nat
  | [] => []
  | p :: r => p.1 :: keysOf r
theorem OffA.map {D : Addr} : ∀ {l : List (Addr × Obj)}, (∀ q ∈ l, q.1 ≠ D) → OffA D (keysOf l)
  | [], _ => OffA.nil
  | p :: r, h => .cons (h p (.head _)) (OffA.map fun q hq => h q (.tail _ hq))
theorem OffA.of1 {D : Addr} : ∀ {l : List (Addr × Obj)}, LCg.Off1 D l → OffA D (keysOf l)
  | [], _ => OffA.nil
  | p :: r, h => .cons h.1 (OffA.of1 h.2)
theorem keys_mem {q : Addr × Obj} : ∀ {l : List (Addr × Obj)}, q ∈ l → q.1 ∈ keysOf l
  | [], h => nomatch h
  | p :: r, h => by
    rcases List.mem_cons.mp h with rfl | h
    · exact List.mem_cons_self ..
    · exact List.mem_cons_of_mem _ (keys_mem h)
noncomputable def OJ (TA D St cP cE cR cT : Addr) (oD oSt o67 : Obj) (m₀ : Str → Option Value) (K : Nat → List Value → Prop) (i : Nat) (m : Str → Option Value) (news : List (Addr × Obj)) : Prop :=
  m = m₀ ∧ ∃ ts k oP oE oR vP vE vR, news = [(TA, listOf ts.toArray k), (D, oD), (St, oSt), (cP, oP), (cE, oE), (cR, oR), (cT, o67)] ∧ oP.data = Data.cell vP ∧ oE.data = Data.cell vE ∧ oR.data = Data.cell vR ∧ K i ts
theorem outer_loop {TA D St cP cE cR cT ax : Addr} {oD oSt oP oE oR o67 : Obj} {k0 : Nat} {items : Array Value} {m₀ : Str → Option Value} {vP vE vR : Option Value} (K : Nat → List Value → Prop)
    (hh : A.handled = none) (F : Fr h₀ env.locals s.heap m₀) (N : News h₀ env.locals s.heap [(TA, listOf #[] k0), (D, oD), (St, oSt), (cP, oP), (cE, oE), (cR, oR), (cT, o67)]) (hl : h₀.IsList ax items)
    (hP : oP.data = Data.cell vP) (hE : oE.data = Data.cell vE) (hR : oR.data = Data.cell vR) (K0 : K 0 [])
    (step : ∀ i v ts k oP oE oR vP vE vR h₁ tk₁ Ia oI, items[i]? = some v → K i ts → oP.data = Data.cell vP → oE.data = Data.cell vE → oR.data = Data.cell vR →
      OffA Ia [TA, D, St, cP, cE, cR, cT] → Fr h₀ env.locals h₁ m₀ → News h₀ env.locals h₁ [(Ia, oI), (TA, listOf ts.toArray k), (D, oD), (St, oSt), (cP, oP), (cE, oE), (cR, oR), (cT, o67)] →
      wpAny (model prog w) A (assign target env v) (fun _ s₃ => wpAny (model prog w) A (execs body env) (StepE h₀ env.locals [(Ia, oI)] (OJ TA D St cP cE cR cT oD oSt o67 m₀ K (i + 1)) { s with heap := h₁, toks := tk₁ } fun _ _ => False) E s₃) E { s with heap := h₁, toks := tk₁ })
    (helse : ∀ h' tk ts k oP oE oR, Fr h₀ env.locals h' m₀ → News h₀ env.locals h' [(TA, listOf ts.toArray k), (D, oD), (St, oSt), (cP, oP), (cE, oE), (cR, oR), (cT, o67)] → K items.size ts → wpAny (model prog w) A (execs orelse env) Q E { s with heap := h', toks := tk }) :
    wpAny (model prog w) A (pyIter (.ref ax)) (fun it s₂ => TurnsF prog w A h₀ env target body orelse Q E it s₂) E s := by
  have hl' : s.heap.IsList ax items := hl.at fun o e => F.keep _ _ e
  refine wpAny_pyIter_list hl' ?_
  refine TurnsF.mk (listRunsF (fix := []) hh F hl' (.inl (by obtain ⟨o, e, _⟩ := hl; exact ⟨o, e⟩))) (F.push _) (N.pushKeep _) (not_in_size N fun b hb => Nat.le_of_eq (List.mem_singleton.mp hb).symm) (OJ TA D St cP cE cR cT oD oSt o67 m₀ K) (fun _ _ _ _ q hq => nomatch hq)
    ⟨rfl, [], k0, oP, oE, oR, vP, vE, vR, rfl, hP, hE, hR, K0⟩ ?_ ?_
  · rintro i v m₁ news₁ h₁ tk₁ its hi hv ⟨rfl, ts, k, oP, oE, oR, vP, vE, vR, rfl, hP, hE, hR, hK⟩ hil hno F₁ N₁
    obtain ⟨Ia, oI, rfl⟩ := one_its hil
    have hq : ∀ a o, (a, o) ∈ [(TA, listOf ts.toArray k), (D, oD), (St, oSt), (cP, oP), (cE, oE), (cR, oR), (cT, o67)] → @Ne Nat a Ia := fun a o hm e => hno _ hm (List.mem_singleton.mpr e)
    exact body_false <| step i v ts k oP oE oR vP vE vR h₁ tk₁ Ia oI hv hK hP hE hR (OffA.map (l := [(TA, listOf ts.toArray k), (D, oD), (St, oSt), (cP, oP), (cE, oE), (cR, oR), (cT, o67)]) fun q hm => hq _ _ hm) F₁ N₁
  · rintro h' tk m' news' F' N' ⟨rfl, ts, k, oP, oE, oR, vP, vE, vR, rfl, hP, hE, hR, hK⟩
    exact helse h' tk ts k oP oE oR F' N' hK
theorem OJ.end {L TA D St cP cE cR cT Ia : Addr} {oI oD oSt oP oE oR o67 : Obj} {m₀ : Str → Option Value} {vP vE vR : Option Value} {K : Nat → List Value → Prop} {i k : Nat} {ts : List Value} {ar : Array Value} {s₁ : Shared} {h' : Heap} {tk : Nat} {all : List (Addr × Obj)}
    (F : Fr h₀ L h' m₀) (N : News h₀ L h' all) (hm : ∀ q ∈ [(Ia, oI), (TA, listOf ar k), (D, oD), (St, oSt), (cP, oP), (cE, oE), (cR, oR), (cT, o67)], q ∈ all) (hne : OffA Ia [TA, D, St, cP, cE, cR, cT])
    (hP : oP.data = Data.cell vP) (hE : oE.data = Data.cell vE) (hR : oR.data = Data.cell vR) (har : ar = ts.toArray) (hK : K i ts) : StepE h₀ L [(Ia, oI)] (OJ TA D St cP cE cR cT oD oSt o67 m₀ K i) s₁ Q .next { s₁ with heap := h', toks := tk } := by
  subst har
  refine StepE.end F N (fun q hq => by rw [List.mem_singleton.mp hq]; exact hm _ (.head _)) (fun q hq => hm q (.tail _ hq)) (fun q hq hq' => ?_) ⟨rfl, ts, k, oP, oE, oR, vP, vE, vR, rfl, hP, hE, hR, hK⟩
  have e : q.1 = Ia := List.mem_singleton.mp hq'
  exact hne q.1 (keys_mem hq) e
noncomputable def Apt (EA I1 TA D St cP cE cR cT : Addr) : Prop := OffA EA [I1, TA, D, St, cP, cE, cR, cT]
noncomputable def IJ (I1 TA D St cP cE cR cT : Addr) (oI1 oT oD oSt oR o67 : Obj) (m₀ : Str → Option Value) (K : Nat → List Value → Prop) (i : Nat) (m : Str → Option Value) (news : List (Addr × Obj)) : Prop :=
  m = m₀ ∧ ∃ EA es k oP oE vP, news = [(EA, listOf es.toArray k), (I1, oI1), (TA, oT), (D, oD), (St, oSt), (cP, oP), (cE, oE), (cR, oR), (cT, o67)] ∧ oP.data = Data.cell vP ∧ oE.data = Data.cell (some (.ref EA)) ∧ Apt EA I1 TA D St cP cE cR cT ∧ K i es
theorem inner_loop {EA I1 TA D St cP cE cR cT : Addr} {oI1 oT oSt oP oE oR o67 : Obj} {es : List Value} {ear : Array Value} {ke kd : Nat} {items : Array Value} {m₀ : Str → Option Value} {vP : Option Value} (K : Nat → List Value → Prop)
    (hh : A.handled = none) (F : Fr h₀ env.locals s.heap m₀) (N : News h₀ env.locals s.heap [(EA, listOf ear ke), (I1, oI1), (TA, oT), (D, listOf items kd), (St, oSt), (cP, oP), (cE, oE), (cR, oR), (cT, o67)])
    (hP : oP.data = Data.cell vP) (hE : oE.data = Data.cell (some (.ref EA))) (hap : Apt EA I1 TA D St cP cE cR cT) (hear : ear = es.toArray) (K0 : K 0 es)
    (step : ∀ i v EA es k oP oE vP h₁ tk₁ Ia oI, items[i]? = some v → K i es → oP.data = Data.cell vP → oE.data = Data.cell (some (.ref EA)) → Apt EA I1 TA D St cP cE cR cT →
      OffA Ia [EA, I1, TA, D, St, cP, cE, cR, cT] → Fr h₀ env.locals h₁ m₀ → News h₀ env.locals h₁ [(Ia, oI), (EA, listOf es.toArray k), (I1, oI1), (TA, oT), (D, listOf items kd), (St, oSt), (cP, oP), (cE, oE), (cR, oR), (cT, o67)] →
      wpAny (model prog w) A (assign target env v) (fun _ s₃ => wpAny (model prog w) A (execs body env) (StepE h₀ env.locals [(Ia, oI)] (IJ I1 TA D St cP cE cR cT oI1 oT (listOf items kd) oSt oR o67 m₀ K (i + 1)) { s with heap := h₁, toks := tk₁ } fun _ _ => False) E s₃) E { s with heap := h₁, toks := tk₁ })
    (helse : ∀ h' tk EA es k oP oE vP, Fr h₀ env.locals h' m₀ → News h₀ env.locals h' [(EA, listOf es.toArray k), (I1, oI1), (TA, oT), (D, listOf items kd), (St, oSt), (cP, oP), (cE, oE), (cR, oR), (cT, o67)] → oP.data = Data.cell vP → oE.data = Data.cell (some (.ref EA)) → Apt EA I1 TA D St cP cE cR cT → K items.size es →
      wpAny (model prog w) A (execs orelse env) Q E { s with heap := h', toks := tk }) :
    wpAny (model prog w) A (pyIter (.ref D)) (fun it s₂ => TurnsF prog w A h₀ env target body orelse Q E it s₂) E s := by
  subst hear
  have hl' : s.heap.IsList D items := ⟨_, N.get (by k_mem), rfl, _, rfl⟩
  refine wpAny_pyIter_list hl' ?_
  refine TurnsF.mk (listRunsF (fix := [(D, listOf items kd)]) hh F hl' (.inr ⟨_, List.mem_singleton.mpr rfl⟩)) (F.push _) (N.pushKeep _) (not_in_size N fun b hb => Nat.le_of_eq (List.mem_singleton.mp hb).symm) (IJ I1 TA D St cP cE cR cT oI1 oT (listOf items kd) oSt oR o67 m₀ K) ?_
    ⟨rfl, EA, es, ke, oP, oE, vP, rfl, hP, hE, hap, K0⟩ ?_ ?_
  · rintro i m news ⟨_, EA, es, k, oP, oE, vP, rfl, _⟩ q hq
    rw [List.mem_singleton.mp hq]
    k_mem
  · rintro i v m₁ news₁ h₁ tk₁ its hi hv ⟨rfl, EA, es, k, oP, oE, vP, rfl, hP, hE, hap, hK⟩ hil hno F₁ N₁
    obtain ⟨Ia, oI, rfl⟩ := one_its hil
    have hq : ∀ a o, (a, o) ∈ [(EA, listOf es.toArray k), (I1, oI1), (TA, oT), (D, listOf items kd), (St, oSt), (cP, oP), (cE, oE), (cR, oR), (cT, o67)] → @Ne Nat a Ia := fun a o hm e => hno _ hm (List.mem_singleton.mpr e)
    exact body_false <| step i v EA es k oP oE vP h₁ tk₁ Ia oI hv hK hP hE hap (OffA.map (l := [(EA, listOf es.toArray k), (I1, oI1), (TA, oT), (D, listOf items kd), (St, oSt), (cP, oP), (cE, oE), (cR, oR), (cT, o67)]) fun q hm => hq _ _ hm) F₁ N₁
  · rintro h' tk m' news' F' N' ⟨rfl, EA, es, k, oP, oE, vP, rfl, hP, hE, hap, hK⟩
    exact helse h' tk EA es k oP oE vP F' N' hP hE hap hK
theorem IJ.end {L EA I1 TA D St cP cE cR cT Ia : Addr} {oI oI1 oT oD oSt oP oE oR o67 : Obj} {m₀ : Str → Option Value} {vP : Option Value} {K : Nat → List Value → Prop} {i k : Nat} {es : List Value} {ar : Array Value} {s₁ : Shared} {h' : Heap} {tk : Nat} {all : List (Addr × Obj)}
    (F : Fr h₀ L h' m₀) (N : News h₀ L h' all) (hm : ∀ q ∈ [(Ia, oI), (EA, listOf ar k), (I1, oI1), (TA, oT), (D, oD), (St, oSt), (cP, oP), (cE, oE), (cR, oR), (cT, o67)], q ∈ all) (hne : OffA Ia [EA, I1, TA, D, St, cP, cE, cR, cT])
    (hP : oP.data = Data.cell vP) (hE : oE.data = Data.cell (some (.ref EA))) (hap : Apt EA I1 TA D St cP cE cR cT) (har : ar = es.toArray) (hK : K i es) : StepE h₀ L [(Ia, oI)] (IJ I1 TA D St cP cE cR cT oI1 oT oD oSt oR o67 m₀ K i) s₁ Q .next { s₁ with heap := h', toks := tk } := by
  subst har
  refine StepE.end F N (fun q hq => by rw [List.mem_singleton.mp hq]; exact hm _ (.head _)) (fun q hq => hm q (.tail _ hq)) (fun q hq hq' => ?_) ⟨rfl, EA, es, k, oP, oE, vP, rfl, hP, hE, hap, hK⟩
  have e : q.1 = Ia := List.mem_singleton.mp hq'
  exact hne q.1 (keys_mem hq) e
end
end Mine
end
-- part Tk1
namespace Mine
theorem calm_Tk1 (M : PySem.Model) (A : PySem.Around) (e : PySem.Env) (Q : PySem.Flow → PySem.Shared → Prop) (E : PySem.Value → PySem.Shared → Prop) (s : PySem.Shared) (h : PySem.wpAny M A (PySem.execs [] e) Q E s) : PySem.wpAny M A (PySem.execs [] e) Q E s := by
  w_top off
  first | (walk1; fail) | exact h
end Mine
section
open PySem PySem.W PyProof.Rows PySem.Spec PySem.Calls
set_option linter.unusedVariables false
set_option linter.unusedSimpArgs false
set_option maxRecDepth 100000
set_option maxHeartbeats 4000000
namespace Mine
section
variable {w : World} {p : Program} {loose : List Str} {mean : ExcName → Option Value} {mg mb : Str → Option Value}
variable {A : Around} {E : Value → Shared → Prop} {s : Shared} {h₀ : Heap} {L : Addr} {m : Str → Option Value} {news : List (Addr × Obj)}
theorem ghost_of {tb : Array Value} {g : Obj → List (Addr × Obj)} (F : Fr h₀ L s.heap m) (N : News h₀ L s.heap news) (U : UpdF 67 (tabObj tb) news g) :
    Gh (hideAll s.heap [67]) s.heap tb ∧ (∀ b o, h₀.get? b = some o → (hideAll s.heap [67]).get? b = some o) := by
  obtain ⟨own, rest, rfl, hg, h1, h2⟩ := U.split
  have hm := N (67, tabObj tb) (List.mem_append_right _ (.head _))
  refine ⟨⟨fun b o e => of_hideAll _ e, hideAll_size _ _, fun b o hb e => hideAll_get _ e (fun q => hb (List.mem_singleton.mp q)), hideAll_none _ (List.mem_singleton.mpr rfl), hm.1⟩, fun b o e => hideAll_get _ (F.keep b o e) fun q => ?_⟩
  have := hm.2.2
  rw [← List.mem_singleton.mp q, e] at this
  cases this
theorem ghost_back {tb tb' : Array Value} {g : Obj → List (Addr × Obj)} {h' : Heap} (F : Fr h₀ L s.heap m) (N : News h₀ L s.heap news) (U : UpdF 67 (tabObj tb) news g)
    (hk : ∀ b o, (hideAll s.heap [67]).get? b = some o → h'.get? b = some o) (ht : h'.get? 67 = some (tabObj tb')) : Fr h₀ L h' m ∧ News h₀ L h' (g (tabObj tb')) := by
  obtain ⟨G, hsub⟩ := ghost_of F N U
  obtain ⟨own, rest, rfl, hg, h1, h2⟩ := U.split
  have hm := N (67, tabObj tb) (List.mem_append_right _ (.head _))
  have up : ∀ b o, b ≠ 67 → s.heap.get? b = some o → h'.get? b = some o := fun b o hb e => hk b o (G.sup b o hb e)
  refine ⟨⟨F.ns.at' fun o e => up _ o hm.2.1.symm e, fun b o e => hk b o (hsub b o e), F.above⟩, ?_⟩
  rw [hg]
  intro q hq
  rcases List.mem_append.mp hq with hq | hq
  · have n := N q (List.mem_append_left _ hq)
    exact ⟨up _ _ (h1 q hq) n.1, n.2⟩
  · rcases List.mem_cons.mp hq with rfl | hq
    · exact ⟨ht, hm.2⟩
    · have n := N q (List.mem_append_right _ (.tail _ hq))
      exact ⟨up _ _ (h2 q hq) n.1, n.2⟩
theorem ghost_new {tb : Array Value} {g : Obj → List (Addr × Obj)} {D : Addr} {h' : Heap} {o : Obj} (F : Fr h₀ L s.heap m) (N : News h₀ L s.heap news) (U : UpdF 67 (tabObj tb) news g)
    (hD : (hideAll s.heap [67]).get? D = none) (ho : h'.get? D = some o) (hne : D ≠ 67) : News h₀ L h' [(D, o)] ∧ ∀ q ∈ news, q.1 ≠ D := by
  obtain ⟨G, hsub⟩ := ghost_of F N U
  have no : s.heap.get? D = none := by
    cases e : s.heap.get? D with
    | none => rfl
    | some o' => rw [G.sup D o' hne e] at hD; cases hD
  refine ⟨fun q hq => ?_, fun q hq e => ?_⟩
  · rw [List.mem_singleton.mp hq]
    refine ⟨ho, fun e => ?_, ?_⟩
    · obtain ⟨oL, _, _, hL, _⟩ := F.ns
      have e' : D = L := e
      rw [e', hL] at no; cases no
    · cases e : h₀.get? D with
      | none => rfl
      | some o' => rw [F.keep D o' e] at no; cases no
  · have := (N q hq).1
    rw [e, no] at this; cases this
theorem useT {all : List Tk} {P : Str} {t t' : Tok} {St : Addr} {tb : Array Value} {g : Obj → List (Addr × Obj)} {Q : Value → Shared → Prop} (hP : P.cps.toList = all.flatMap Tk.signs) (hn : P.length ≤ 1000) (hstar : ∀ done ts, all = done ++ Tk.star :: ts → done = [] ∨ done = [Tk.dot])
    (X : (Mine.hd.heap_1 w.params).In h₀) (T : Top p loose mean mg mb h₀) (C : CodeHd h₀ 71 67) (F : Fr h₀ L s.heap m) (N : News h₀ L s.heap news) (U : UpdF 67 (tabObj tb) news g) (hT : TabOk tb) (hb : AllBare s.gens)
    (hA : A.handled = none) (hd : A.depth + 10 < recursionLimit) (hu : A.units + 100 < cLine)
    (h : ∀ D vs k tb' h' tk g', Parts St all vs → TabOk tb' → AllBare g' → Fr h₀ L h' m → News h₀ L h' ((D, listOf vs.toArray k) :: g (tabObj tb')) → (∀ q ∈ news, q.1 ≠ D) → Q (.ref D) { s with heap := h', gens := g', toks := tk }) :
    wpAny (model PR w) A (call (.ref 72) [.str P t, .ref St, .str (Str.ofString ".") t']) Q E s := by
  obtain ⟨hn', dp, fr, gd, u⟩ := A
  replace hA : hn' = none := hA
  subst hA
  obtain ⟨G, hsub⟩ := ghost_of F N U
  refine wpAny_mono (t_all w p loose mean mg mb all P hP hn hstar St t t' dp u gd fr s _ tb E (X.keeps hsub) (T.keeps hsub) G hT (C.keeps hsub) hb hd hu) (fun r s' hr => ?_) fun _ _ x => x
  obtain ⟨D, vs, k, tb', h', tk, g', rfl, hp, rfl, hT', hb', hD, hDn, hk, h67⟩ := hr
  have hne : D ≠ 67 := fun e => by rw [e, h67] at hD; cases hD
  obtain ⟨F', N'⟩ := ghost_back F N U hk h67
  obtain ⟨N₂, hq⟩ := ghost_new F N U hDn hD hne
  exact h D vs k tb' h' tk g' hp hT' hb' F' (fun q hq => by
    rcases List.mem_cons.mp hq with rfl | hq
    · exact N₂ _ (List.mem_singleton.mpr rfl)
    · exact N' q hq) hq
end
section
open PyProof.Rows.LCg PyProof.Rows.LCt
variable {prog : Program} {w : World} {A : Around} {h₀ : Heap} {L : Addr} {m : Str → Option Value} {env : Env} {ct elt : PySem.Expr} {x : Str} {scope : Scope} {cl : List (Str × Addr)} {s : Shared} {S : List (Addr × Obj) → Prop} {P : Nat → Value → Prop} {Fin : List Value → List (Addr × Obj) → Prop} {news : List (Addr × Obj)}
noncomputable def CiYes (news : List (Addr × Obj)) (b : Bool) (fk : Int) (y : Value) (news' : List (Addr × Obj)) : Prop := news' = news ∧ b = true ∧ ∃ t, y = .int fk t
noncomputable def CiNo (news : List (Addr × Obj)) (b : Bool) (news' : List (Addr × Obj)) : Prop := news' = news ∧ b = false
theorem ci_yes {L I C D : Addr} {oI oC oD : Obj} {b : Bool} {fk : Int} {t : Tok} {h' : Heap} {tk : Nat} {s₁ : Shared} {all : List (Addr × Obj)} (F : Fr h₀ L h' m) (N : News h₀ L h' all) (off : Off3 I C D news) (hS : S news) (sub : ∀ q ∈ (I, oI) :: (C, oC) :: (D, oD) :: news, q ∈ all) (hb : b = true) :
    CompEnd h₀ L m s₁ I oI C oC D oD S (fun y news' => CiYes news b fk y news') (.int fk t) { s₁ with heap := h', toks := tk } := CompEnd.intro F N news sub off hS ⟨rfl, hb, t, rfl⟩
theorem ci_no {L I C D : Addr} {oI oC oD : Obj} {b : Bool} {v : Value} {h' : Heap} {tk : Nat} {s₁ : Shared} {all : List (Addr × Obj)} (F : Fr h₀ L h' m) (N : News h₀ L h' all) (off : Off3 I C D news) (hS : S news) (sub : ∀ q ∈ (I, oI) :: (C, oC) :: (D, oD) :: news, q ∈ all) (hb : b = false) :
    CompEnd h₀ L m s₁ I oI C oC D oD S (fun _ news' => CiNo news b news') v { s₁ with heap := h', toks := tk } := CompEnd.intro F N news sub off hS ⟨rfl, hb⟩
theorem comp_ints {n : Nat} {ks : List Int} (p : Int → Bool) (f : Int → Int) (hks : ks.length = n) (hP : ∀ i v, i < n → P i v → ∃ k t, ks[i]? = some k ∧ v = .int k t)
    (turn : ∀ k t I oI C oC D m₂ ys h tk (E' : Value → Shared → Prop), k ∈ ks → NsObj oC m₂ → m₂ x = some (.int k t) → Fr h₀ L h m → News h₀ L h ((I, oI) :: (C, oC) :: (D, lst ys) :: news) → Off3 I C D news → ((@Ne Nat I C) ∧ (@Ne Nat I D) ∧ (@Ne Nat C D)) →
      wpAny (model prog w) A (isTrue ct (compEnvC scope cl C env) (eval ct (compEnvC scope cl C env))) (fun b s' => if b = true then wpAny (model prog w) A (eval elt (compEnvC scope cl C env)) (CompEnd h₀ L m { s with heap := h, toks := tk } I oI C oC D (lst ys) S (fun y news' => CiYes news (p k) (f k) y news')) E' s'
        else CompEnd h₀ L m { s with heap := h, toks := tk } I oI C oC D (lst ys) S (fun _ news' => CiNo news (p k) news') Value.none s') E' { s with heap := h, toks := tk })
    (fin : ∀ ys, IntsAre ys ((ks.filter p).map f) → ys.length ≤ n → Fin ys news) : CompRestT prog w A h₀ L m env ct elt x scope cl s S P Fin n 0 [] news := by
  have key : ∀ (j i : Nat) (ys : List Value), i + j = n → IntsAre ys (((ks.take i).filter p).map f) → CompRestT prog w A h₀ L m env ct elt x scope cl s S P Fin j i ys news := by
    intro j
    induction j with
    | zero =>
      intro i ys hi hy
      have e : i = ks.length := by omega
      subst e
      rw [List.take_length] at hy
      refine CompRestT.zero (fin ys hy ?_)
      rw [hy.length, List.length_map]
      exact Nat.le_trans (List.length_filter_le _ _) (Nat.le_of_eq hks)
    | succ j ih =>
      intro i ys hi hy
      refine CompRestT.succ ?_
      intro v I oI C oC D m₂ h tk E' hv hC hx F N off ne
      obtain ⟨k, t, hk, rfl⟩ := hP i v (by omega) hv
      have hs : ks.take (i + 1) = ks.take i ++ [k] := by rw [List.take_add_one, hk]; rfl
      refine wpAny_mono (turn k t I oI C oC D m₂ ys h tk E' (List.mem_of_getElem? hk) hC hx F N off ne) (fun b s₂ hq => ?_) fun _ _ e => e
      cases b with
      | true =>
        simp only [if_true] at hq ⊢
        refine wpAny_mono hq (fun y s₃ hr => ?_) fun _ _ e => e
        obtain ⟨h', tk', nw, e, F', N', off', hS, rfl, hp, t', rfl⟩ := hr
        refine ⟨h', tk', nw, e, F', N', off', hS, ih (i + 1) _ (by omega) ?_⟩
        rw [hs, List.filter_append, List.map_append]
        have : ([k].filter p).map f = [f k] := by simp [hp]
        rw [this]
        exact IntsAre.append hy (.cons _ t' .nil)
      | false =>
        simp only [Bool.false_eq_true, if_false] at hq ⊢
        obtain ⟨h', tk', nw, e, F', N', off', hS, rfl, hp⟩ := hq
        refine ⟨h', tk', nw, e, F', N', off', hS, ih (i + 1) _ (by omega) ?_⟩
        rw [hs, List.filter_append, List.map_append]
        have : ([k].filter p).map f = [] := by simp [hp]
        rw [this, List.append_nil]
        exact hy
  exact key n 0 [] (by omega) (by simp only [List.take_zero, List.filter_nil, List.map_nil]; exact .nil)
theorem comp_ints_list {vs : List Value} {ns : List Int} (p : Int → Bool) (f : Int → Int) (hi : IntsAre vs ns)
    (turn : ∀ k t I oI C oC D m₂ ys h tk (E' : Value → Shared → Prop), k ∈ ns → NsObj oC m₂ → m₂ x = some (.int k t) → Fr h₀ L h m → News h₀ L h ((I, oI) :: (C, oC) :: (D, lst ys) :: news) → Off3 I C D news → ((@Ne Nat I C) ∧ (@Ne Nat I D) ∧ (@Ne Nat C D)) →
      wpAny (model prog w) A (isTrue ct (compEnvC scope cl C env) (eval ct (compEnvC scope cl C env))) (fun b s' => if b = true then wpAny (model prog w) A (eval elt (compEnvC scope cl C env)) (CompEnd h₀ L m { s with heap := h, toks := tk } I oI C oC D (lst ys) S (fun y news' => CiYes news (p k) (f k) y news')) E' s'
        else CompEnd h₀ L m { s with heap := h, toks := tk } I oI C oC D (lst ys) S (fun _ news' => CiNo news (p k) news') Value.none s') E' { s with heap := h, toks := tk })
    (fin : ∀ ys, IntsAre ys ((ns.filter p).map f) → ys.length ≤ vs.toArray.size → Fin ys news) : CompRestT prog w A h₀ L m env ct elt x scope cl s S (fun i v => vs.toArray[i]? = some v) Fin vs.toArray.size 0 [] news :=
  comp_ints p f (by rw [List.size_toArray]; exact hi.length.symm) (fun i v _ hv => by
    obtain ⟨k, t, e, hk⟩ := IntsAre.at hi i v (by simpa using hv)
    exact ⟨k, t, hk, e⟩) turn fin
theorem comp_ints_range {n : Nat} {a : Int} (p : Int → Bool) (f : Int → Int)
    (turn : ∀ k t I oI C oC D m₂ ys h tk (E' : Value → Shared → Prop), k ∈ rangeKs a n → NsObj oC m₂ → m₂ x = some (.int k t) → Fr h₀ L h m → News h₀ L h ((I, oI) :: (C, oC) :: (D, lst ys) :: news) → Off3 I C D news → ((@Ne Nat I C) ∧ (@Ne Nat I D) ∧ (@Ne Nat C D)) →
      wpAny (model prog w) A (isTrue ct (compEnvC scope cl C env) (eval ct (compEnvC scope cl C env))) (fun b s' => if b = true then wpAny (model prog w) A (eval elt (compEnvC scope cl C env)) (CompEnd h₀ L m { s with heap := h, toks := tk } I oI C oC D (lst ys) S (fun y news' => CiYes news (p k) (f k) y news')) E' s'
        else CompEnd h₀ L m { s with heap := h, toks := tk } I oI C oC D (lst ys) S (fun _ news' => CiNo news (p k) news') Value.none s') E' { s with heap := h, toks := tk })
    (fin : ∀ ys, IntsAre ys (((rangeKs a n).filter p).map f) → ys.length ≤ n → Fin ys news) : CompRestT prog w A h₀ L m env ct elt x scope cl s S (fun i v => ∃ t, v = .int (a + (i : Int)) t) Fin n 0 [] news :=
  comp_ints (ks := rangeKs a n) p f (rangeKs_length a n) (fun i v hi hv => by
    obtain ⟨t, e⟩ := hv
    exact ⟨a + (i : Int), t, by simp [rangeKs, hi], e⟩) turn fin
theorem rsz (n : Nat) : Builtin.Range.rangeSize 0 ((n : Int) + 1) 1 = ((n + 1 : Nat) : Int) := by
  rw [rangeSize_nat]; omega
theorem rsm {n : Nat} (h : n ≤ 16) : Builtin.Range.small 0 ((n : Int) + 1) 1 = true := small_one (by omega) (by omega) (by omega) (by omega)
theorem rsl {n : Nat} (h : n ≤ 16) : n + 1 ≤ sizeLine := Nat.le_trans (Nat.succ_le_succ h) (by decide)
theorem comp_star {n : Nat} {es : List Value} {ns : List Int} (hes : IntsAre es ns)
    (turn : ∀ k t I oI C oC D m₂ ys h tk (E' : Value → Shared → Prop), k ∈ rangeKs 0 n → NsObj oC m₂ → m₂ x = some (.int k t) → Fr h₀ L h m → News h₀ L h ((I, oI) :: (C, oC) :: (D, lst ys) :: news) → Off3 I C D news → ((@Ne Nat I C) ∧ (@Ne Nat I D) ∧ (@Ne Nat C D)) →
      wpAny (model prog w) A (isTrue ct (compEnvC scope cl C env) (eval ct (compEnvC scope cl C env))) (fun b s' => if b = true then wpAny (model prog w) A (eval elt (compEnvC scope cl C env)) (CompEnd h₀ L m { s with heap := h, toks := tk } I oI C oC D (lst ys) S (fun y news' => CiYes news (!decide (ns = []) && decide (ns.getD 0 0 ≤ k)) k y news')) E' s'
        else CompEnd h₀ L m { s with heap := h, toks := tk } I oI C oC D (lst ys) S (fun _ news' => CiNo news (!decide (ns = []) && decide (ns.getD 0 0 ≤ k)) news') Value.none s') E' { s with heap := h, toks := tk })
    (fin : ∀ ys, IntsAre ys (((rangeKs 0 n).filter fun k => !decide (ns = []) && decide (ns.getD 0 0 ≤ k)).map fun k => k) → ys.length ≤ n → Fin ys news) : CompRestT prog w A h₀ L m env ct elt x scope cl s S (fun i v => ∃ t, v = .int (0 + (i : Int)) t) Fin n 0 [] news :=
  comp_ints_range (fun k => !decide (ns = []) && decide (ns.getD 0 0 ≤ k)) (fun k => k) turn fin
noncomputable def QOf (r q : Int → Bool) : Prop := ∀ e, q e = r e
theorem comp_ends {es : List Value} {ns : List Int} {q : Int → Bool} {r : Int → Bool} (hq : QOf r q) (hes : IntsAre es ns)
    (turn : ∀ k t I oI C oC D m₂ ys h tk (E' : Value → Shared → Prop), k ∈ ns → NsObj oC m₂ → m₂ x = some (.int k t) → Fr h₀ L h m → News h₀ L h ((I, oI) :: (C, oC) :: (D, lst ys) :: news) → Off3 I C D news → ((@Ne Nat I C) ∧ (@Ne Nat I D) ∧ (@Ne Nat C D)) →
      wpAny (model prog w) A (isTrue ct (compEnvC scope cl C env) (eval ct (compEnvC scope cl C env))) (fun b s' => if b = true then wpAny (model prog w) A (eval elt (compEnvC scope cl C env)) (CompEnd h₀ L m { s with heap := h, toks := tk } I oI C oC D (lst ys) S (fun y news' => CiYes news (q k) (k + 1) y news')) E' s'
        else CompEnd h₀ L m { s with heap := h, toks := tk } I oI C oC D (lst ys) S (fun _ news' => CiNo news (q k) news') Value.none s') E' { s with heap := h, toks := tk })
    (fin : ∀ ys, IntsAre ys ((ns.filter q).map fun k => k + 1) → ys.length ≤ es.toArray.size → Fin ys news) : CompRestT prog w A h₀ L m env ct elt x scope cl s S (fun i v => es.toArray[i]? = some v) Fin es.toArray.size 0 [] news :=
  comp_ints_list q (fun k => k + 1) hes turn fin
end
end Mine
end
-- part Tk2
local macro_rules | `(tactic| walk_at "FinE") => `(tactic| ((unfold PyProof.Rows.LCg.FinE); intro D' h' tk' F' N' o1'; (replace o1' := Mine.OffA.of1 o1'); (try dsimp only [Mine.keysOf] at o1'); (try simp only [List.nil_append, List.cons_append] at N'); (try dsimp only)))
namespace Mine
theorem calm_Tk2 (M : PySem.Model) (A : PySem.Around) (e : PySem.Env) (Q : PySem.Flow → PySem.Shared → Prop) (E : PySem.Value → PySem.Shared → Prop) (s : PySem.Shared) (h : PySem.wpAny M A (PySem.execs [] e) Q E s) : PySem.wpAny M A (PySem.execs [] e) Q E s := by
  w_top off
  first | (walk1; fail) | exact h
end Mine
section
open PySem PySem.W PyProof.Rows PySem.Spec PySem.Calls
set_option linter.unusedVariables false
set_option linter.unusedSimpArgs false
set_option maxRecDepth 100000
set_option maxHeartbeats 1000000
namespace Mine
noncomputable def takeT : Tk → Str → Bool
  | .star, _ => false
  | .ques, y => Pt.any.takes y
  | .blank, y => Pt.blank.takes y
  | .dot, y => Pt.dot.takes y
  | .cls, y => Pt.notdash.takes y
noncomputable def signAt (x : Str) (e : Int) : Str := ⟨#[x.cps.getD e.toNat 0]⟩
noncomputable def stepT (x : Str) (es : List Int) : Tk → List Int
  | .star => ((rangeKs 0 (x.length + 1)).filter fun k => !decide (es = []) && decide (es.getD 0 0 ≤ k)).map fun k => k
  | tk => (es.filter fun e => decide (e < (x.length : Int)) && takeT tk (signAt x e)).map fun e => e + 1
noncomputable def takenT (all : List Tk) (x : Str) : Bool := (all.foldl (stepT x) [0]).any (· == (x.length : Int))
noncomputable def TkEnd (h₀ : Heap) (ys : List Str) (s : Shared) (r : Value) (s' : Shared) : Prop :=
  ∃ D vs k tb' h' tk g', r = .ref D ∧ StrsAre vs ys ∧ s' = { s with heap := h', gens := g', toks := tk } ∧ TabOk tb' ∧ AllBare g' ∧ h'.get? D = some (listOf vs.toArray k) ∧ h₀.get? D = none ∧ (∀ b o, h₀.get? b = some o → h'.get? b = some o) ∧ h'.get? 67 = some (tabObj tb')
local macro_rules | `(tactic| walk_at "exec For Name Name cons nil") => `(tactic| (k_here; (rename Fr _ _ _ _ => lF'); (with_unfolding_all refine' For_F lF' ?_); k_whole))
theorem nz {ns : List Int} (h : (!decide (ns = [])) = true) : (0 : Int) < (ns.length : Int) := by
  cases ns with
  | nil => simp at h
  | cons a r => simp
theorem is_str_ref {prog : Program} {w : World} {A : Around} {E : Value → Shared → Prop} {s : Shared} {x : Str} {t : Tok} {a : Addr} {Q : Value → Shared → Prop} (h : Q (.bool false) s) : wpAny (model prog w) A (compareOp .Is (.str x t) (.ref a)) Q E s :=
  wpAny_bind (m := isSame _ _) (wpAny_of_eq (a := false) (by rfl) (wpAny_pure h))
local macro_rules | `(tactic| walk_at "compareOp In int ref") => `(tactic| (k_dflt ((rename IntsAre _ _ => hes'); (refine in_list_ints (News.isList (by assumption) (by k_mem)) hes' ?_))))
local macro_rules | `(tactic| walk_at "compareOp Is str ref") => `(tactic| (refine is_str_ref ?_))
theorem ends_size {es : List Value} {ns : List Int} (h : IntsAre es ns) (hl : ns.length ≤ 17) : es.toArray.size ≤ sizeLine := by
  rw [List.size_toArray, h.length]
  exact Nat.le_trans hl (by decide)
theorem sign_at {x : Str} {k : Int} {ns : List Int} (hb : ∀ e ∈ ns, 0 ≤ e ∧ e ≤ 17) (hk : k ∈ ns) (h : decide (k < (x.length : Int)) = true) : k = ((k.toNat : Nat) : Int) ∧ x.cps[k.toNat]? = some (x.cps.getD k.toNat 0) := by
  have h0 := (hb k hk).1
  have h1 := of_decide_eq_true h
  refine ⟨by omega, ?_⟩
  have h2 : k.toNat < x.cps.size := by
    have : x.length = x.cps.size := rfl
    omega
  rw [Array.getElem?_eq_getElem h2, Array.getD_eq_getD_getElem?, Array.getElem?_eq_getElem h2]
  rfl
theorem stepT_bnd {x : Str} {ns : List Int} (hx : x.length ≤ 16) (hb : ∀ e ∈ ns, 0 ≤ e ∧ e ≤ 17) (hl : ns.length ≤ 17) (tkn : Tk) : (∀ e ∈ stepT x ns tkn, 0 ≤ e ∧ e ≤ 17) ∧ (stepT x ns tkn).length ≤ 17 := by
  have other : ∀ q : Int → Bool, (∀ e, q e = true → e < (x.length : Int)) → (∀ e ∈ (ns.filter q).map fun e => e + 1, 0 ≤ e ∧ e ≤ 17) ∧ ((ns.filter q).map fun e => e + 1).length ≤ 17 := by
    intro q hq
    refine ⟨fun e he => ?_, by rw [List.length_map]; exact Nat.le_trans (List.length_filter_le _ _) hl⟩
    obtain ⟨k, hk, rfl⟩ := List.mem_map.mp he
    obtain ⟨hk1, hk2⟩ := List.mem_filter.mp hk
    have h1 := hb k hk1
    have h2 := hq k hk2
    omega
  have lt : ∀ (f : Str → Bool) (e : Int), (decide (e < (x.length : Int)) && f (signAt x e)) = true → e < (x.length : Int) := fun f e h => of_decide_eq_true (Bool.and_eq_true_iff.mp h).1
  cases tkn with
  | star =>
    refine ⟨fun e he => ?_, ?_⟩
    · obtain ⟨k, hk, rfl⟩ := List.mem_map.mp he
      have h1 := mem_rangeKs (List.mem_filter.mp hk).1
      omega
    · show (List.map _ _).length ≤ 17
      rw [List.length_map]
      exact Nat.le_trans (List.length_filter_le _ _) (by rw [rangeKs_length]; omega)
  | ques => exact other _ fun e h => lt _ e h
  | blank => exact other _ fun e h => lt _ e h
  | dot => exact other _ fun e h => lt _ e h
  | cls => exact other _ fun e h => lt _ e h
local macro_rules | `(tactic| walk_at "subscriptTail Name Name str int") => `(tactic| (k_dflt ((have hsg' := sign_at (by assumption) (by assumption) (by assumption)); (refine item_ofs hsg'.1 hsg'.2 (Nat.le_trans (by assumption) (by decide)) ?_); intro _ _)))
local macro_rules | `(tactic| walk_at "subscriptTail Name Constant ref int") => `(tactic| (k_dflt ((rename IntsAre _ _ => hes'); (refine item_list_ints (News.isList (by assumption) (by k_mem)) hes' (by decide) (nz (by assumption)) (by decide) ?_); intro _)))
local macro_rules | `(tactic| k_ne) => `(tactic| (refine neN ?_; (try dsimp only); first | exact OffA.l (by assumption) (by k_mem) | exact OffA.r (by assumption) (by k_mem) | omega))
local macro_rules | `(tactic| walk_at "CompEnd") => `(tactic| (k_dflt (first | refine ci_yes (by assumption) (by assumption) (by assumption) (by lcg_src) (by lcg_sub) ?_ | refine ci_no (by assumption) (by assumption) (by assumption) (by lcg_src) (by lcg_sub) ?_)))
local macro_rules | `(tactic| walk_at "eval ListComp") => `(tactic| (k_here; k_dflt (refine LCt.ListComp_T (F₀ := by k_asm) (by with_unfolding_all rfl) (by decide) (by rfl) (by decide) (by rfl) ?_)))
local macro_rules | `(tactic| walk_at "CompSrcT") => `(tactic| (k_dflt ((try dsimp only); (show LCt.CompSrcT _ _ _ _ _ _ _ _ _ _ _ _ _ _ _); (rename IntsAre _ _ => hes'); (rename Str.length _ ≤ 16 => hx'); (first
  | ((refine LCt.CompSrcT.range (by rfl) (by k_asm) (by k_asm) (by assumption) (rsm hx') (rsz _) (rsl hx') ?_); intro g'; (refine' comp_star hes' (fun k' t' I' oI' C' oC' D' m' ys' h' tk' E' hk' hC' hx' F' N' off' ne' => ?_) (fun ys' hys' hln' => ?_)))
  | ((rename QOf _ _ => hq'); (rename List.length _ ≤ 17 => hl'); (refine LCt.CompSrcT.ledger (by rfl) (by k_asm) (by k_asm) (by k_mem) (ends_size hes' hl') ?_); intro g'; (refine' comp_ends hq' hes' (fun k' t' I' oI' C' oC' D' m' ys' h' tk' E' hk' hC' hx' F' N' off' ne' => ?_) (fun ys' hys' hln' => ?_)))); (all_goals (try clear ne')); (all_goals (try dsimp only)))))
theorem ite_dec {c : Prop} [Decidable c] {a b : Prop} (h1 : c → a) (h2 : ¬ c → b) : if c then a else b := by
  by_cases h : c
  · rw [if_pos h]; exact h1 h
  · rw [if_neg h]; exact h2 h
local macro_rules | `(tactic| walk_at "ite") => `(tactic| (first | (k_closed; (first | refine ite_pos (by decide +kernel) ?_ | refine ite_neg (by decide +kernel) ?_)) | refine ite_dec (fun hc' => ?_) (fun hc' => ?_)))
theorem mf2 {m : Str → Option Value} {a1 a2 : Str} {v1 v2 : Value} (h1 : m a1 = some v1) (h2 : m a2 = some v2) : m = fun y => if y = a1 then some v1 else if y = a2 then some v2 else m y := by
  funext y
  split
  · rename_i h; rw [h, h1]
  split
  · rename_i h; rw [h, h2]
  rfl
theorem Parts.get {St : Addr} : ∀ {ts : List Tk} {vs : List Value} {j : Nat} {v : Value}, Parts St ts vs → vs[j]? = some v → ∃ t, ts[j]? = some t ∧ partV St t v
  | [], [], _, _, _, h => by cases h
  | [], _ :: _, _, _, h, _ => h.elim
  | _ :: _, [], _, _, h, _ => h.elim
  | a :: ts, b :: vs, 0, v, h, e => ⟨a, rfl, by cases e; exact h.1⟩
  | a :: ts, b :: vs, j + 1, v, h, e => Parts.get (ts := ts) (vs := vs) h.2 e
theorem filt_t {p : Str → Bool} {x : Str} (h : p x = true) : [x].filter p = [x] := by simp [h]
theorem filt_f {p : Str → Bool} {x : Str} (h : p x = false) : [x].filter p = [] := by simp [h]
theorem abs2 {h₀ h : Heap} {L : Addr} {m : Str → Option Value} (a1 a2 : Str) (v1 v2 : Value) (F : Fr h₀ L h m) (h1 : m a1 = some v1) (h2 : m a2 = some v2) : ∃ m' : Str → Option Value, Fr h₀ L h (fun y => if y = a1 then some v1 else if y = a2 then some v2 else m' y) := ⟨m, mf2 h1 h2 ▸ F⟩
theorem Gh.news2 {h₀ h h' : Heap} {tb : Array Value} {L : Addr} {m : Str → Option Value} {cells : List (Addr × Obj)} (G : Gh h₀ h tb) (F : Fr h L h' m) (N : News h L h' cells) : News h₀ L h' (cells ++ [(67, tabObj tb)]) := fun q hq => by
  rcases List.mem_append.mp hq with hq | hq
  · refine ⟨(N q hq).1, (N q hq).2.1, ?_⟩
    cases e : h₀.get? q.1 with
    | none => rfl
    | some o => have := G.sub _ _ e; rw [(N q hq).2.2] at this; cases this
  · exact G.news F q hq
theorem Gh.lt {h₀ h h' : Heap} {tb : Array Value} {L : Addr} {m : Str → Option Value} (G : Gh h₀ h tb) (F : Fr h L h' m) : (67 : Nat) < L := Nat.lt_of_lt_of_le (Heap.lt_size G.tab) F.above
section
variable (w : World) (p : Program) (loose : List Str) (mean : ExcName → Option Value) (mg mb : Str → Option Value)
theorem part_cases {St : Addr} {tkn : Tk} {v : Value} (h : partV St tkn v) : (tkn = .star ∧ v = .ref St) ∨ ∃ pt tv, v = .str pt tv ∧ (∀ y u, y.length ≤ 16 → PC0 w p loose mean mg mb 140 3 40 [.str pt tv, .str y u] (fun r => IsB (takeT tkn y) r)) ∧
    ∀ x es, stepT x es tkn = (es.filter fun e => decide (e < (x.length : Int)) && takeT tkn (signAt x e)).map fun e => e + 1 := by
  cases tkn with
  | star => exact .inl ⟨rfl, h⟩
  | ques =>
    obtain ⟨t, rfl⟩ := h
    exact .inr ⟨_, t, rfl, fun y u hy => c_takes0 w p loose mean mg mb y hy t u, fun _ _ => rfl⟩
  | blank =>
    obtain ⟨t, rfl⟩ := h
    exact .inr ⟨_, t, rfl, fun y u hy => (show Str.ofString "\\ " = ⟨#[92, 32]⟩ from by decide +kernel) ▸ c_takes1 w p loose mean mg mb y hy t u, fun _ _ => rfl⟩
  | dot =>
    obtain ⟨t, rfl⟩ := h
    exact .inr ⟨_, t, rfl, fun y u hy => (show Str.ofString "\\." = ⟨#[92, 46]⟩ from by decide +kernel) ▸ c_takes3 w p loose mean mg mb y hy t u, fun _ _ => rfl⟩
  | cls =>
    obtain ⟨t, rfl⟩ := h
    exact .inr ⟨_, t, rfl, fun y u hy => (show Str.ofString "[^\\-]" = ⟨#[91, 94, 92, 45, 93]⟩ from by decide +kernel) ▸ c_takes2 w p loose mean mg mb y hy t u, fun _ _ => rfl⟩
theorem t_taken (all : List Tk) (P : Str) (hP : P.cps.toList = all.flatMap Tk.signs) (hn : P.length ≤ 1000) (hstar : ∀ done ts, all = done ++ Tk.star :: ts → done = [] ∨ done = [Tk.dot]) (t : Tok) (dp u : Nat) (gd : Option (List Code)) (fr : Option (List Env)) (s : Shared) (h₀ : Heap) (tb : Array Value) (E : Value → Shared → Prop) (X : (Mine.hd.heap_1 w.params).In h₀) (T : Top p loose mean mg mb h₀) (G : Gh h₀ s.heap tb) (hT : TabOk tb) (C : CodeHd h₀ 71 67) (hb : AllBare s.gens)
    (R : Addr) (rs : List Value) (xs : List Str) (hR : h₀.IsList R rs.toArray) (hxs : StrsAre rs xs) (hlen : rs.length ≤ 16) (hx : ∀ x ∈ xs, x.length ≤ 16)
    (hdp : dp + 20 < recursionLimit) (hun : u + 200 < cLine) :
    wpAny (model PR w) (Ar dp u gd fr) (call (.ref 145) [.str P t, .ref R]) (fun r s' => TkEnd h₀ (xs.filter (takenT all)) s r s') E s := by
  have X' := X.keeps G.sub
  have T' := T.keeps G.sub
  (refine wpAny_call ?_; k_dflt (refine' enterC (K := Mine.hd.heap_1 _) ?kX ?kT ?k6 ?k7 ?k8 ?k9 ?kB ?kD ?_ ?c2 ?c3 ?c4; (case kX => assumption); (case kT => assumption); (case k6 => k_is); (case k7 => k_is); (case k8 => ((try simp only [Ar]); omega)); (case k9 => exact BindsTo.of_eq rfl); (case kB => exact rfl); (case kD => decide +kernel); (case c2 => exact rfl); (case c3 => exact rfl); (case c4 => exact rfl); k_whole; intro _ _ _ _ _ _ _; (try dsimp only); (try k_fold)))
  (rename Fr _ _ _ _ => F₁)
  (rename News _ _ _ _ => N₁)
  (rename CellsAre _ _ _ => Y₁)
  obtain ⟨oP, oE, oR, hc, d1, d2, d3⟩ := CellsAre.three Y₁
  subst hc
  replace d1 : oP.data = Data.cell none := d1
  replace d2 : oE.data = Data.cell none := d2
  replace d3 : oR.data = Data.cell none := d3
  clear Y₁
  obtain ⟨m', F₂⟩ := abs2 (Str.ofString "glob") (Str.ofString "rows") (.str P t) (.ref R) (G.fr F₁) rfl rfl
  have N₂ := G.news2 F₁ N₁
  have l67 := G.lt F₁
  clear F₁ N₁ X' T'
  dsimp only [List.cons_append, List.nil_append] at N₂
  k_steps
  (rename Fr _ _ _ _ => F₁)
  (rename News _ _ _ _ => N₁)
  refine' useT hP hn hstar X T C F₁ N₁ ?u1 hT hb rfl ?u2 ?u3 ?u4
  case u1 => k_updF
  case u2 => show dp + 1 + 10 < _; omega
  case u3 => show u + 3 + 100 < _; omega
  case u4 =>
    intro D vs kv tb' h' tk g' hpt hT' hb' F₂ N₂ hq
    clear F₁ N₁
    replace hq := OffA.map hq
    dsimp only [keysOf] at hq
    k_steps
    (rename Fr _ _ _ _ => F₁)
    (rename News _ _ _ _ => N₁)
    refine outer_loop (fun i ts => StrsAre ts ((xs.take i).filter (takenT all))) rfl F₁ N₁ hR d1 d2 d3 .nil ?_ ?_
    · clear F₁ N₁
      intro i v ts k oP oE oR vP vE vR h₁ tk₁ Ia oI hv hK hP hE hR hneI F N
      obtain ⟨x, tx, rfl, hxi⟩ := StrsAre.item hxs i v (by simpa using hv)
      have hx1 : x.length ≤ 16 := hx x (List.mem_of_getElem? hxi)
      dsimp only [envOfC] at F N
      dsimp only
      k_steps
      (rename Fr _ _ _ _ => F₁)
      (rename News _ _ _ _ => N₁)
      refine inner_loop (fun j es => IntsAre es ((all.take j).foldl (stepT x) [0]) ∧ (∀ e ∈ (all.take j).foldl (stepT x) [0], (0 ≤ e ∧ e ≤ 17)) ∧ ((all.take j).foldl (stepT x) [0]).length ≤ 17) rfl F₁ N₁ hP (by assumption) (.cons (by k_ne) <| .cons (by k_ne) <| .cons (by k_ne) <| .cons (by k_ne) <| .cons (by k_ne) <| .cons (by k_ne) <| .cons (by k_ne) <| .cons (by k_ne) .nil) rfl ⟨.cons _ _ .nil, ⟨by intro e he; rw [List.mem_singleton.mp he]; omega, Nat.le_add_left 1 16⟩⟩ ?_ ?_
      · clear F₁ N₁ hE hP
        intro j v EA es ke oP oE vP h₁ tk₁ Ib oIb hv ⟨hes, hes2, hes3⟩ hP hE hap hneB F N
        unfold Apt at hap
        dsimp only [envOfC] at F N
        dsimp only
        obtain ⟨tkn, htk, hpv⟩ := Parts.get hpt (by simpa using hv)
        have hstep : (all.take (j + 1)).foldl (stepT x) [0] = stepT x ((all.take j).foldl (stepT x) [0]) tkn := by
          rw [List.take_add_one, htk]; simp
        generalize (all.take j).foldl (stepT x) [0] = ns at hes hes2 hes3 hstep
        clear hK hR hxs hx hv hxi hstar hn G hT hb hlen hpt
        rcases part_cases w p loose mean mg mb hpv with ⟨rfl, rfl⟩ | ⟨pt, tv, rfl, hcall, hst⟩
        · k_steps
          · rw [Bool.and_eq_true]; exact ⟨by assumption, by assumption⟩
          · rw [Bool.and_eq_false_iff]; exact .inr (Bool.eq_false_iff.mpr (by assumption))
          · rw [Bool.and_eq_false_iff]; exact .inl (Bool.eq_false_iff.mpr (by assumption))
          (rename Fr _ _ _ _ => F₁)
          (rename News _ _ _ _ => N₁)
          (rename Str.length _ ≤ 16 => hx1)
          refine IJ.end F₁ N₁ (by lcg_sub) (.cons (by k_ne) (OffA.tail hneB)) (by assumption) (by assumption) (OffA.tail (OffA.tail (by assumption))) rfl ⟨?_, ?_⟩
          · rw [hstep]; assumption
          · rw [hstep]; exact stepT_bnd hx1 hes2 hes3 _
        · obtain ⟨q, hq⟩ : ∃ q, QOf (fun e => decide (e < (x.length : Int)) && takeT tkn (signAt x e)) q := ⟨_, fun _ => rfl⟩
          k_steps
          · (rename Fr _ _ _ _ => F₁)
            (rename News _ _ _ _ => N₁)
            refine useC0 (hcall _ _ (Nat.le_add_left 1 15)) X ‹_› F₁ N₁ rfl (by show dp + 1 + 3 < _; omega) (by show u + 3 + 40 < _; omega) ?_
            rintro r h' tk rfl F₃ N₃
            clear F₁ N₁
            k_steps
            · (rename QOf _ _ => hq)
              rw [hq, Bool.and_eq_true]; exact ⟨by assumption, by assumption⟩
            · (rename QOf _ _ => hq)
              rw [hq, Bool.and_eq_false_iff]; exact .inr (Bool.eq_false_iff.mpr (by assumption))
          · (rename QOf _ _ => hq)
            rw [hq, Bool.and_eq_false_iff]; exact .inl (Bool.eq_false_iff.mpr (by assumption))
          (rename Fr _ _ _ _ => F₁)
          (rename News _ _ _ _ => N₁)
          (rename Str.length _ ≤ 16 => hx1)
          (rename List.length _ ≤ 17 => hes3)
          (rename QOf _ _ => hq)
          refine IJ.end F₁ N₁ (by lcg_sub) (.cons (by k_ne) (OffA.tail hneB)) (by assumption) (by assumption) (OffA.tail (OffA.tail (by assumption))) rfl ⟨?_, ?_⟩
          · rw [hstep, hst, ← show q = _ from funext hq]; assumption
          · rw [hstep]; exact stepT_bnd hx1 hes2 hes3 _
      · clear F₁ N₁ hE hP
        intro h' tk EA es ke oP oE vP F N hP hE hap ⟨hes, hes2, hes3⟩
        unfold Apt at hap
        have hall : all.take vs.toArray.size = all := List.take_of_length_le (by rw [List.size_toArray, Parts.length hpt]; exact Nat.le_refl _)
        rw [hall] at hes hes2 hes3
        have htn : takenT all x = (all.foldl (stepT x) [0]).any (· == (x.length : Int)) := rfl
        generalize all.foldl (stepT x) [0] = ns at hes hes2 hes3 htn
        have hti : xs.take (i + 1) = xs.take i ++ [x] := by rw [List.take_add_one, hxi]; rfl
        dsimp only [envOfC] at F N
        dsimp only
        have hts : ts.toArray.size ≤ 16 := by
          have h1 := hK.length
          have h2 := List.length_filter_le (takenT all) (xs.take i)
          have h3 := List.length_take_le' i xs
          have h4 := hxs.length
          rw [List.size_toArray]
          omega
        k_steps
        · (rename Fr _ _ _ _ => F₁)
          (rename News _ _ _ _ => N₁)
          (rename List.any _ _ = true => hany)
          refine OJ.end (ts := ts ++ [.str x _]) F₁ N₁ (by lcg_sub) hneI (by assumption) (by assumption) (by assumption) (by rw [List.push_toArray]) ?_
          rw [hti, List.filter_append, filt_t (htn.trans hany)]
          exact hK.append' (.cons _ _ .nil)
        · (rename Fr _ _ _ _ => F₁)
          (rename News _ _ _ _ => N₁)
          (rename ¬ (List.any _ _ = true) => hany)
          refine OJ.end (ts := ts) F₁ N₁ (by lcg_sub) hneI (by assumption) (by assumption) (by assumption) rfl ?_
          rw [hti, List.filter_append, filt_f (htn.trans (Bool.eq_false_iff.mpr hany)), List.append_nil]
          exact hK
    · clear F₁ N₁
      intro h' tk ts k oP oE oR F N hK
      have hall : xs.take rs.toArray.size = xs := List.take_of_length_le (by rw [List.size_toArray, hxs.length]; exact Nat.le_refl _)
      rw [hall] at hK
      dsimp only [envOfC] at F N
      dsimp only
      k_steps
      (rename Fr _ _ _ _ => F₁)
      (rename News _ _ _ _ => N₁)
      exact ⟨_, ts, k, tb', _, _, g', rfl, hK, rfl, hT', hb', N₁.get (by k_mem), N₁.fresh (by k_mem), F₁.keep, N₁.get (by k_mem)⟩
end
end Mine
end
-- part ZipC
namespace Mine
theorem calm_ZipC (M : PySem.Model) (A : PySem.Around) (e : PySem.Env) (Q : PySem.Flow → PySem.Shared → Prop) (E : PySem.Value → PySem.Shared → Prop) (s : PySem.Shared) (h : PySem.wpAny M A (PySem.execs [] e) Q E s) : PySem.wpAny M A (PySem.execs [] e) Q E s := by
  w_top off
  first | (walk1; fail) | exact h
end Mine
section
open PySem PySem.W PyProof.Rows PySem.Spec PySem.Calls PyProof.V
open PyProof.Rows.LCg
set_option linter.unusedVariables false
set_option maxRecDepth 100000
set_option maxHeartbeats 2000000
namespace Mine
section
variable {prog : Program} {w : World} {A : Around} {E : Value → Shared → Prop} {s : Shared} {h₀ : Heap} {L : Addr} {m : Str → Option Value} {env : Env}
noncomputable def ZC (prog : Program) (w : World) (A : Around) (E : Value → Shared → Prop) (env : Env) (elt tgt iter : PySem.Expr) (ifs : List PySem.Expr) (scope : Scope) (cl : List (Str × Addr)) (pos : Pos) (Q : Value → Shared → Prop) (it : Value) (s₂ : Shared) : Prop :=
  wpAny (model prog w) A (newList []) (fun acc s₃ => wpAny (model prog w) A (newFunctionEnv scope env.globals cl [] env.qual none .none (some env)) (fun cenv s₄ =>
    codeAny (model prog w) A (.compStart (.ListComp elt [⟨tgt, iter, ifs, 0⟩] scope pos) 0 it acc { cenv with scope := relabel scope env }) (compPost (model prog w) A E none Q acc cenv.locals) s₄) E s₃) E s₂
theorem zc_start {elt tgt iter : PySem.Expr} {ifs : List PySem.Expr} {scope : Scope} {cl : List (Str × Addr)} {pos : Pos} {Q : Value → Shared → Prop}
    (hclos : closureFor scope env = pure cl) (hkind : scope.kind = .function) (hnames : ∀ x ∈ scope.names, x.2 = .local → scope.names.lookup x.1 = some .local)
    (h : wpAny (model prog w) A (eval iter env) (fun xv s₁ => wpAny (model prog w) A (pyIter xv) (fun it s₂ => ZC prog w A E env elt tgt iter ifs scope cl pos Q it s₂) E s₁) E s)
    (hs : ∀ x, foldedSetIterable iter env x = pure x := by intro _; rfl) :
    wpAny (model prog w) A (eval (.ListComp elt [⟨tgt, iter, ifs, 0⟩] scope pos) env) Q E s := by
  rw [eval_ListComp]
  exact wpAny_comprehension_free (use := none) rfl hs hclos hkind hnames h
noncomputable def ITS (Z : Nat) (oz o1 o2 o3 o4 : Obj) (C : Addr) (oC : Obj) (D : Addr) (ys : List Value) (news : List (Addr × Obj)) : List (Addr × Obj) := (Z + 4, oz) :: (Z + 2, o1) :: (Z + 3, o2) :: (Z, o3) :: (Z + 1, o4) :: (C, oC) :: (D, lst ys) :: news
noncomputable def ZEnd (h₀ : Heap) (L : Addr) (m : Str → Option Value) (s₁ : Shared) (all : List (Addr × Obj)) (rest : Value → Prop) (y : Value) (s₂ : Shared) : Prop :=
  ∃ h' tk, s₂ = { s₁ with heap := h', toks := tk } ∧ Fr h₀ L h' m ∧ News h₀ L h' all ∧ rest y
theorem ZEnd.mk {s₁ : Shared} {all all' : List (Addr × Obj)} {rest : Value → Prop} {y : Value} {h' : Heap} {tk : Nat} (F : Fr h₀ L h' m) (N : News h₀ L h' all') (sub : ∀ q ∈ all, q ∈ all') (r : rest y) : ZEnd h₀ L m s₁ all rest y { s₁ with heap := h', toks := tk } :=
  ⟨h', tk, rfl, F, fun q hq => N q (sub q hq), r⟩

noncomputable def ZG (prog : Program) (w : World) (A : Around) (E : Value → Shared → Prop) (env : Env) (elt tgt iter : PySem.Expr) (ifs : List PySem.Expr) (scope : Scope) (cl : List (Str × Addr)) (pos : Pos) (use : Option (Value → Sem Unit)) (QQ : Value → Shared → Prop) (it : Value) (s₂ : Shared) : Prop :=
  wpAny (model prog w) A (newList []) (fun acc s₃ => wpAny (model prog w) A (newFunctionEnv scope env.globals cl [] env.qual none .none (some env)) (fun cenv s₄ =>
    codeAny (model prog w) A (.compStart (.ListComp elt [⟨tgt, iter, ifs, 0⟩] scope pos) 0 it acc { cenv with scope := relabel scope env }) (compPost (model prog w) A E use QQ acc cenv.locals) s₄) E s₃) E s₂
theorem zip_core {elt iter : PySem.Expr} {ifs : List PySem.Expr} {a b : Str} {pa pb tp : Pos} {kk : Nat} {scope : Scope} {cl : List (Str × Addr)} {pos : Pos} {use : Option (Value → Sem Unit)} {QQ : Value → Shared → Prop} {l1 l2 : Addr} {xs us : List Value} {n1 n2 : Nat} {news : List (Addr × Obj)} (K : Nat → List Value → Prop)
    (Body : Env → Value → (Result → Shared → Prop) → (Shared → Prop) → Shared → Prop)
    (LR : ∀ {it acc : Value} {env' : Env} {R : Result → Shared → Prop} {s : Shared} (I : Nat → Shared → Prop), (∀ n s, I n s → wpAny (model prog w) A (pyNext it) (fun r s₁ => match r with
      | none => R (.ok .next) s₁
      | some v => wpAny (model prog w) A (letOwnedTupleGo (.Tuple [.Name a pa, .Name b pb] kk tp) it v) (fun _ s₀ => wpAny (model prog w) A (assign (.Tuple [.Name a pa, .Name b pb] kk tp) env' v) (fun _ s₂ => Body env' acc R (fun s₅ => ∃ m, m < n ∧ I m s₅) s₂)
          (notedBy (model prog w) A env' fun e s' => R (.error e) s') s₀) (notedBy (model prog w) A env' fun e s' => R (.error e) s') s₁) (notedBy (model prog w) A env' fun e s' => R (.error e) s') s) →
      ∀ n, I n s → codeAny (model prog w) A (.compLoop (.ListComp elt [⟨.Tuple [.Name a pa, .Name b pb] kk tp, iter, ifs, 0⟩] scope pos) 0 it acc env') R s)
    (hh : A.handled = none) (hm1 : (l1, listOf xs.toArray n1) ∈ news) (hm2 : (l2, listOf us.toArray n2) ∈ news) (F : Fr h₀ L s.heap m) (N : News h₀ L s.heap news) (hlen : xs.length = us.length) (hsz : xs.length ≤ 1000)
    (hcell : ∀ y ∈ scope.names, y.2 ≠ .cell) (hkind : scope.kind = .function) (hxa : scope.names.lookup a = some .local) (hxb : scope.names.lookup b = some .local) (hab : ¬ a = b) (K0 : K 0 [])
    (turn : ∀ i va vb ys h tk (Z : Nat) oz o1 o2 o3 o4 C oC D m₂ (R : Result → Shared → Prop) (nx : Shared → Prop), xs[i]? = some va → us[i]? = some vb → K i ys → NsObj oC m₂ → m₂ a = some va → m₂ b = some vb → Fr h₀ L h m → News h₀ L h (ITS Z oz o1 o2 o3 o4 C oC D ys news) →
      (∀ y s₅, ZEnd h₀ L m { s with heap := h, toks := tk } (ITS Z oz o1 o2 o3 o4 C oC D ys news) (fun y => K (i + 1) (ys ++ [y])) y s₅ → wpAny (model prog w) A (call (.builtin "list.append") [.ref D, y]) (fun _ s₆ => nx s₆) (notedBy (model prog w) A (compEnvC scope cl C env) fun e s' => R (.error e) s') s₅) →
      (∀ s₅, ZEnd h₀ L m { s with heap := h, toks := tk } (ITS Z oz o1 o2 o3 o4 C oC D ys news) (fun _ => K (i + 1) ys) .none s₅ → nx s₅) →
      Body (compEnvC scope cl C env) (.ref D) R nx { s with heap := h, toks := tk })
    (fin : ∀ D C h tk ys m', K xs.length ys → ys.length ≤ xs.length → Fr h₀ L h m → News h₀ L h ((D, lst ys) :: news) → OffA D (keysOf news) → h.Ns C m' → C ≠ L → h₀.get? C = none → (∀ q ∈ (D, lst ys) :: news, q.1 ≠ C) →
      compPost (model prog w) A E use QQ (.ref D) C (.ok .next) { s with heap := h, toks := tk }) :
    wpAny (model prog w) A (call (.type "zip") [.ref l1, .ref l2]) (fun xv s₁ => wpAny (model prog w) A (pyIter xv) (fun it s₂ => ZG prog w A E env elt (.Tuple [.Name a pa, .Name b pb] kk tp) iter ifs scope cl pos use QQ it s₂) E s₁) E s := by
  have hax1 := N _ hm1
  have hax2 := N _ hm2
  have hl1 : s.heap.IsList l1 xs.toArray := ⟨_, hax1.1, rfl, n1, rfl⟩
  have hl2 : s.heap.IsList l2 us.toArray := ⟨_, hax2.1, rfl, n2, rfl⟩
  have hlt1 : @LT.lt Nat _ l1 s.heap.objs.size := Heap.lt_size hax1.1
  have hlt2 : @LT.lt Nat _ l2 s.heap.objs.size := Heap.lt_size hax2.1
  have hLs : L < s.heap.objs.size := F.ns.lt
  have D : ZipApart (s.heap.objs.size + 4) (s.heap.objs.size + 2) (s.heap.objs.size + 3) s.heap.objs.size (s.heap.objs.size + 1) l1 l2 := ktu_apart _ _ _ hlt1 hlt2
  refine call_zip_2 hl1 hl2 fun hz' hz hTI hTO hi1 hi2 hsz' hk => ?_
  refine wpAny_pyIter_zip hz ?_
  have U := (WalksT.zip2 (prog := prog) (w := w) hh _ _ _ _ _ _ _ D xs.toArray us.toArray).toU
  have W := KTurns.ofWalksU (elts := [.Name a pa, .Name b pb]) (k := kk) (pos := tp) U
  unfold ZG
  refine wpAny_newObj_type (wpAny_newFunctionEnv hcell (by intro y hy; simp at hy) (fun h₁ hns₁ hsb₁ => ?_) hkind)
  dsimp only at hns₁ hsb₁ ⊢
  generalize hH2 : hz'.push { cls := .type "list", dict := none, data := .seq ([] : List Value).toArray } = H2 at hns₁ hsb₁ ⊢
  have hC : H2.objs.size = hz'.objs.size + 1 := by rw [← hH2, Heap.size_push]
  generalize hCn : H2.objs.size = C at *
  generalize hDn : hz'.objs.size = Da at *
  generalize hZn : s.heap.objs.size = Z at *
  have hDZ : Da = Z + 5 := hsz'
  have hCZ : C = Z + 6 := by omega
  have hold : ∀ b o, hz'.get? b = some o → @LT.lt Nat _ b Da := fun b o e => hDn ▸ Heap.lt_size e
  have hDC : Da ≠ C := by omega
  have up2 : ∀ b o, hz'.get? b = some o → h₁.get? b = some o := fun b o e => hsb₁.extBut b o (Nat.ne_of_lt (Nat.lt_trans (hold b o e) (by omega))) (Heap.get?_push_of_some _ (hH2 ▸ Heap.get?_push_of_some _ e))
  have old : ∀ b o, s.heap.get? b = some o → h₁.get? b = some o := fun b o e => up2 b o (hk b o e)
  have hacc : h₁.get? Da = some (lst []) := hsb₁.extBut _ _ hDC (Heap.get?_push_of_some _ (by rw [← hH2, ← hDn]; exact Heap.get?_push_size _ rfl))
  have fresh₀ : ∀ a, Z ≤ a → h₀.get? a = none := fun a ha => ktu_new F (by rw [hZn]; exact ha)
  have hlt : ∀ p ∈ news, @LT.lt Nat _ p.1 Z := fun p hp => hZn ▸ Heap.lt_size (N p hp).1
  have offn : ∀ p ∈ news, ∀ z : Nat, Z ≤ z → p.1 ≠ z := fun p hp z hz => Nat.ne_of_lt (Nat.lt_of_lt_of_le (hlt p hp) hz)
  have hLZ : ∀ z : Nat, Z ≤ z → L ≠ z := fun z hz => Nat.ne_of_lt (Nat.lt_of_lt_of_le hLs hz)
  have hst₁ := U.frame 0 _ _ (show _ from ⟨hz, hTI, ⟨_, _, hTO⟩, hi1, hi2, hl1.at fun o e => hk l1 o e, hl2.at fun o e => hk l2 o e⟩) fun b _ o e => up2 b o e
  have hnn : min xs.toArray.size us.toArray.size = xs.length := by rw [List.size_toArray, List.size_toArray, ← hlen, Nat.min_self]
  have loop : ∀ s₃ : Shared, s₃ = { s with heap := h₁, toks := s.toks + ([] : List (Str × Value)).length } →
      codeAny (model prog w) A (.compLoop (.ListComp elt [⟨.Tuple [.Name a pa, .Name b pb] kk tp, iter, ifs, 0⟩] scope pos) 0 (.ref (Z + 4)) (.ref Da) (compEnvC scope cl C env)) (compPost (model prog w) A E use QQ (.ref Da) C) s₃ := by
    rintro s₃ rfl
    refine LR
      (fun k s' => ∃ h' tk i ys m', s' = { s with heap := h', toks := tk } ∧ i ≤ xs.length ∧ k = xs.length + 1 - i ∧ ys.length ≤ i ∧ (IsZip h' (Z + 4) (Z + 2) (Z + 3) .none ∧ IsPair h' (Z + 2) (.ref Z) (.ref (Z + 1)) ∧ (∃ a b, IsPair h' (Z + 3) a b) ∧ h'.IsListIter Z l1 i ∧ h'.IsListIter (Z + 1) l2 i ∧ h'.IsList l1 xs.toArray ∧ h'.IsList l2 us.toArray) ∧
        Fr h₀ L h' m ∧ h'.Ns C m' ∧ News h₀ L h' ((Da, lst ys) :: news) ∧ K i ys) ?_ (xs.length + 1)
      ⟨h₁, _, 0, [], _, rfl, Nat.zero_le _, rfl, Nat.le_refl _, hst₁, F.keeps old, hns₁, fun p hp => ?_, K0⟩
    · rintro k s' ⟨h', tk, i, ys, m', rfl, hi, rfl, hyl, hst', F', hn', N', hK⟩
      by_cases hlt' : i < xs.length
      · refine W.item i _ _ _ (by rw [hnn]; exact hlt') hst' fun v h₂ tk₂ hMd hk₂ => ?_
        refine W.go i v _ _ _ hMd fun h₃ hP hst₃ hk₃ => ?_
        obtain ⟨T, vals, rfl, ⟨va, vb, hva, hvb, rfl⟩, hT⟩ := hP
        have up₃ : ∀ c o, c ∉ [Z + 4, Z + 3, Z, Z + 1] → h'.get? c = some o → h₃.get? c = some o := fun c o hc e => hk₃ c o hc (hk₂ c o hc e)
        have nin : ∀ c : Nat, (c < Z ∨ Z + 5 ≤ c) → c ∉ [Z + 4, Z + 3, Z, Z + 1] := fun c hc hm => by
          simp only [List.mem_cons, List.not_mem_nil, or_false] at hm
          omega
        refine kcp_assign (env := compEnvC scope cl C env) hh hT (lookup_relabel_local hxa) (lookup_relabel_local hxb) (by simp [compEnvC, relabel, hkind]) (hn'.at' fun o e => up₃ _ o (nin C (by omega)) e) fun h₄ tk₄ hn₄ hs₄ => ?_
        have up : ∀ c o, (c < Z ∨ c = Z + 5) → h'.get? c = some o → h₄.get? c = some o := fun c o hc e => hs₄ c o (by show c ≠ C; omega) (up₃ c o (nin c (by omega)) e)
        have st4 : ∀ c o, c ≠ C → h₃.get? c = some o → h₄.get? c = some o := fun c o hc e => hs₄ c o hc e
        have nC : ∀ c : Nat, c ≤ Z + 5 → c ≠ C := fun c hc => by omega
        have hst₄ := U.frame (i + 1) _ _ hst₃ fun c hc o e => st4 c o (by
          simp only [List.mem_cons, List.not_mem_nil, or_false] at hc
          rcases hc with rfl | rfl | rfl | rfl | rfl | rfl | rfl
          · exact nC _ (by omega)
          · exact nC _ (by omega)
          · exact nC _ (by omega)
          · exact nC _ (by omega)
          · exact nC _ (by omega)
          · exact nC _ (Nat.le_trans (Nat.le_of_lt hlt1) (by omega))
          · exact nC _ (Nat.le_trans (Nat.le_of_lt hlt2) (by omega))) e
        obtain ⟨e1, e2, ⟨_, _, e3⟩, ⟨q4, e4, _⟩, ⟨q5, e5, _⟩, _, _⟩ := id hst₄
        obtain ⟨q1, g1⟩ : ∃ q, h₄.get? (Z + 4) = some q := ⟨_, e1⟩
        obtain ⟨q2, g2⟩ : ∃ q, h₄.get? (Z + 2) = some q := ⟨_, e2⟩
        obtain ⟨q3, g3⟩ : ∃ q, h₄.get? (Z + 3) = some q := ⟨_, e3⟩
        obtain ⟨oC, heC, hoC⟩ := ns_obj hn₄
        have F₄ : Fr h₀ L h₄ m := ⟨F'.ns.at' fun o e => up _ o (.inl hLs) e, fun c o e => up c o (by
          refine .inl (Nat.lt_of_not_le fun q => ?_)
          rw [fresh₀ c q] at e; cases e) (F'.keep c o e), F'.above⟩
        have N₄ : News h₀ L h₄ (ITS Z q1 q2 q3 q4 q5 C oC Da ys news) := fun q hq => by
          rcases List.mem_cons.mp hq with rfl | hq
          · exact ⟨g1, (hLZ _ (Nat.le_add_right _ _)).symm, fresh₀ _ (Nat.le_add_right _ _)⟩
          rcases List.mem_cons.mp hq with rfl | hq
          · exact ⟨g2, (hLZ _ (Nat.le_add_right _ _)).symm, fresh₀ _ (Nat.le_add_right _ _)⟩
          rcases List.mem_cons.mp hq with rfl | hq
          · exact ⟨g3, (hLZ _ (Nat.le_add_right _ _)).symm, fresh₀ _ (Nat.le_add_right _ _)⟩
          rcases List.mem_cons.mp hq with rfl | hq
          · exact ⟨e4, (hLZ _ (Nat.le_refl _)).symm, fresh₀ _ (Nat.le_refl _)⟩
          rcases List.mem_cons.mp hq with rfl | hq
          · exact ⟨e5, (hLZ _ (Nat.le_add_right _ _)).symm, fresh₀ _ (Nat.le_add_right _ _)⟩
          rcases List.mem_cons.mp hq with rfl | hq
          · exact ⟨heC, (hLZ _ (by omega)).symm, fresh₀ _ (by omega)⟩
          have z := N' q hq
          refine ⟨up _ _ ?_ z.1, z.2⟩
          rcases List.mem_cons.mp hq with rfl | hq
          · exact .inr hDZ
          · exact .inl (hlt q hq)
        have back : ∀ (h₅ : Heap), Fr h₀ L h₅ m → News h₀ L h₅ (ITS Z q1 q2 q3 q4 q5 C oC Da ys news) → (IsZip h₅ (Z + 4) (Z + 2) (Z + 3) .none ∧ IsPair h₅ (Z + 2) (.ref Z) (.ref (Z + 1)) ∧ (∃ a b, IsPair h₅ (Z + 3) a b) ∧ h₅.IsListIter Z l1 (i + 1) ∧ h₅.IsListIter (Z + 1) l2 (i + 1) ∧ h₅.IsList l1 xs.toArray ∧ h₅.IsList l2 us.toArray) := by
          intro h₅ F₅ N₅
          have same : ∀ c o q, (c, q) ∈ (ITS Z q1 q2 q3 q4 q5 C oC Da ys news) → h₄.get? c = some o → h₅.get? c = some o := fun c o q hq e => by
            have h1 := (N₄ _ hq).1
            rw [e] at h1
            have h2 := (N₅ _ hq).1
            rw [h2]; exact h1.symm
          refine U.frame (i + 1) _ _ hst₄ fun c hc o e => ?_
          simp only [List.mem_cons, List.not_mem_nil, or_false] at hc
          rcases hc with rfl | rfl | rfl | rfl | rfl | rfl | rfl
          · exact same _ o _ (.head _) e
          · exact same _ o _ (.tail _ (.head _)) e
          · exact same _ o _ (.tail _ (.tail _ (.head _))) e
          · exact same _ o _ (.tail _ (.tail _ (.tail _ (.head _)))) e
          · exact same _ o _ (.tail _ (.tail _ (.tail _ (.tail _ (.head _))))) e
          · exact same _ o _ (.tail _ (.tail _ (.tail _ (.tail _ (.tail _ (.tail _ (.tail _ hm1))))))) e
          · exact same _ o _ (.tail _ (.tail _ (.tail _ (.tail _ (.tail _ (.tail _ (.tail _ hm2))))))) e
        have yes : ∀ y s₅, ZEnd h₀ L m { s with heap := h₄, toks := tk₄ } (ITS Z q1 q2 q3 q4 q5 C oC Da ys news) (fun y => K (i + 1) (ys ++ [y])) y s₅ → wpAny (model prog w) A (call (.builtin "list.append") [.ref Da, y]) (fun _ s₅ => ∃ m', m' < xs.length + 1 - i ∧ ∃ h' tk i ys m'', s₅ = { s with heap := h', toks := tk } ∧ i ≤ xs.length ∧ m' = xs.length + 1 - i ∧ ys.length ≤ i ∧ (IsZip h' (Z + 4) (Z + 2) (Z + 3) .none ∧ IsPair h' (Z + 2) (.ref Z) (.ref (Z + 1)) ∧ (∃ a b, IsPair h' (Z + 3) a b) ∧ h'.IsListIter Z l1 i ∧ h'.IsListIter (Z + 1) l2 i ∧ h'.IsList l1 xs.toArray ∧ h'.IsList l2 us.toArray) ∧
            Fr h₀ L h' m ∧ h'.Ns C m'' ∧ News h₀ L h' ((Da, lst ys) :: news) ∧ K i ys) (notedBy (model prog w) A (compEnvC scope cl C env) fun e s' => compPost (model prog w) A E use QQ (.ref Da) C (.error e) s') s₅ := by
          rintro y s₅ ⟨h₅, tk₅, rfl, F₅, N₅, hK₅⟩
          have zC := (N₅ (C, oC) (.tail _ (.tail _ (.tail _ (.tail _ (.tail _ (.head _))))))).1
          have zD := (N₅ (Da, lst ys) (.tail _ (.tail _ (.tail _ (.tail _ (.tail _ (.tail _ (.head _)))))))).1
          have hst₅ := back h₅ F₅ N₅
          refine append_at (hsz := by show ys.toArray.size ≤ sizeLine; rw [List.size_toArray]; exact Nat.le_trans (Nat.le_trans hyl hi) (Nat.le_trans hsz (by decide))) zD fun h₆ hs₆ hD₆ => ?_
          have hst₆ := U.frame (i + 1) _ _ hst₅ fun c hc o e => hs₆.extBut c o (by
            simp only [List.mem_cons, List.not_mem_nil, or_false] at hc
            rcases hc with rfl | rfl | rfl | rfl | rfl | rfl | rfl
            · exact Nat.ne_of_lt (by omega)
            · exact Nat.ne_of_lt (by omega)
            · exact Nat.ne_of_lt (by omega)
            · exact Nat.ne_of_lt (by omega)
            · exact Nat.ne_of_lt (by omega)
            · exact Nat.ne_of_lt (Nat.lt_of_lt_of_le hlt1 (by omega))
            · exact Nat.ne_of_lt (Nat.lt_of_lt_of_le hlt2 (by omega))) e
          refine ⟨xs.length + 1 - (i + 1), by omega, h₆, tk₅, i + 1, ys ++ [y], _, rfl, hlt', rfl, by rw [List.length_append, List.length_singleton]; exact Nat.succ_le_succ hyl, hst₆, F₅.change hs₆ (hLZ _ (by omega)).symm (fresh₀ _ (by omega)), (hoC.ns zC).sameBut hs₆ (Ne.symm hDC), fun q hq => ?_, hK₅⟩
          rcases List.mem_cons.mp hq with rfl | hq
          · exact ⟨hD₆.trans (congrArg some (lst_snoc ys y)), (hLZ _ (by omega)).symm, fresh₀ _ (by omega)⟩
          · have z := N₅ q (.tail _ (.tail _ (.tail _ (.tail _ (.tail _ (.tail _ (.tail _ hq)))))))
            exact ⟨hs₆.extBut _ _ (offn q hq _ (by omega)) z.1, z.2⟩
        refine turn i va vb ys h₄ tk₄ Z q1 q2 q3 q4 q5 C oC Da _ _ _ (by simpa using hva) (by simpa using hvb) hK hoC (by simp [hab]) (by simp) F₄ N₄ yes fun s₅ hq => ?_
        obtain ⟨h₅, tk₅, rfl, F₅, N₅, hK₅⟩ := hq
        have zC := (N₅ (C, oC) (.tail _ (.tail _ (.tail _ (.tail _ (.tail _ (.head _))))))).1
        exact ⟨xs.length + 1 - (i + 1), by omega, h₅, tk₅, i + 1, ys, _, rfl, hlt', rfl, Nat.le_succ_of_le hyl, back h₅ F₅ N₅, F₅, hoC.ns zC, fun q hq => N₅ q (.tail _ (.tail _ (.tail _ (.tail _ (.tail _ (.tail _ hq)))))), hK₅⟩
      · have hin : i = xs.length := Nat.le_antisymm hi (Nat.not_lt.mp hlt')
        subst hin
        refine W.done _ _ _ (by rw [hnn]; exact hst') fun h₂ tk₂ hk₂ => ?_
        have nin : ∀ c : Nat, (c < Z ∨ Z + 5 ≤ c) → c ∉ [Z + 4, Z + 3, Z, Z + 1] := fun c hc hm => by
          simp only [List.mem_cons, List.not_mem_nil, or_false] at hm
          omega
        have F₂ : Fr h₀ L h₂ m := ⟨F'.ns.at' fun o e => hk₂ _ o (nin _ (.inl hLs)) e, fun c o e => hk₂ c o (nin c (by
          refine .inl (Nat.lt_of_not_le fun q => ?_)
          rw [fresh₀ c q] at e; cases e)) (F'.keep c o e), F'.above⟩
        have N₂ : News h₀ L h₂ ((Da, lst ys) :: news) := fun q hq => by
          have z := N' q hq
          refine ⟨hk₂ _ _ (nin _ ?_) z.1, z.2⟩
          rcases List.mem_cons.mp hq with rfl | hq
          · exact .inr (by omega)
          · exact .inl (hlt q hq)
        refine fin Da C h₂ tk₂ ys m' hK hyl F₂ N₂ (OffA.map fun q hq => offn q hq _ (by omega)) (hn'.at' fun o e => hk₂ _ o (nin C (by omega)) e) (hLZ _ (by omega)).symm (fresh₀ _ (by omega)) fun q hq => ?_
        rcases List.mem_cons.mp hq with rfl | hq
        · exact hDC
        · exact offn q hq _ (by omega)
    · rcases List.mem_cons.mp hp with rfl | hp
      · exact ⟨hacc, (hLZ _ (by omega)).symm, fresh₀ _ (by omega)⟩
      · exact ⟨old _ _ (N p hp).1, (N p hp).2⟩
  exact codeAny_compStart_list (loop _ rfl) (U.self 0 _ _ _ hst₁ (loop _ rfl))
theorem zip_if {ok : Bool} {elt : PySem.Expr} {env' : Env} {Z1 Z2 : Value → Shared → Prop} {T : Value → Shared → Prop} {E' : Value → Shared → Prop} {nx : Shared → Prop} {s₅ : Shared}
    (yes : ∀ y s, Z1 y s → T y s) (no : ∀ s, Z2 .none s → nx s) (hq : if ok = true then wpAny (model prog w) A (eval elt env') Z1 E' s₅ else Z2 .none s₅) :
    if ok = true then wpAny (model prog w) A (eval elt env') T E' s₅ else nx s₅ := by
  cases ok with
  | true => exact wpAny_mono hq yes fun _ _ e => e
  | false => exact no _ hq
theorem zip_plain { elt iter : PySem.Expr} {a b : Str} {pa pb tp : Pos} {kk : Nat} {scope : Scope} {cl : List (Str × Addr)} {pos : Pos} {Q : Value → Shared → Prop} {l1 l2 : Addr} {xs us : List Value} {n1 n2 : Nat} {news : List (Addr × Obj)} (K : Nat → List Value → Prop)
    (hh : A.handled = none) (hm1 : (l1, listOf xs.toArray n1) ∈ news) (hm2 : (l2, listOf us.toArray n2) ∈ news) (F : Fr h₀ L s.heap m) (N : News h₀ L s.heap news) (hlen : xs.length = us.length) (hsz : xs.length ≤ 1000)
    (hcell : ∀ y ∈ scope.names, y.2 ≠ .cell) (hkind : scope.kind = .function) (hxa : scope.names.lookup a = some .local) (hxb : scope.names.lookup b = some .local) (hab : ¬ a = b) (K0 : K 0 [])
    (turn : ∀ i va vb ys h tk (Z : Nat) oz o1 o2 o3 o4 C oC D m₂ (E' : Value → Shared → Prop), xs[i]? = some va → us[i]? = some vb → K i ys → NsObj oC m₂ → m₂ a = some va → m₂ b = some vb → Fr h₀ L h m → News h₀ L h (ITS Z oz o1 o2 o3 o4 C oC D ys news) →
      wpAny (model prog w) A (eval elt (compEnvC scope cl C env)) (ZEnd h₀ L m { s with heap := h, toks := tk } (ITS Z oz o1 o2 o3 o4 C oC D ys news) (fun y => K (i + 1) (ys ++ [y]))) E' { s with heap := h, toks := tk })
    (fin : ∀ D h tk ys, K xs.length ys → ys.length ≤ xs.length → Fr h₀ L h m → News h₀ L h ((D, lst ys) :: news) → OffA D (keysOf news) → Q (.ref D) { s with heap := h, toks := tk }) :
    wpAny (model prog w) A (call (.type "zip") [.ref l1, .ref l2]) (fun xv s₁ => wpAny (model prog w) A (pyIter xv) (fun it s₂ => ZC prog w A E env elt (.Tuple [.Name a pa, .Name b pb] kk tp) iter [] scope cl pos Q it s₂) E s₁) E s := by
  exact zip_core (use := none) (QQ := Q) K (fun env' acc R nx s₂ => wpAny (model prog w) A (eval elt env') (fun x s₄ => wpAny (model prog w) A (call (.builtin "list.append") [acc, x]) (fun _ s₅ => nx s₅) (notedBy (model prog w) A env' fun e s' => R (.error e) s') s₄) (notedBy (model prog w) A env' fun e s' => R (.error e) s') s₂) kcp_loop hh hm1 hm2 F N hlen hsz hcell hkind hxa hxb hab K0 (fun i va vb ys h tk Z oz o1 o2 o3 o4 C oC D m₂ R nx e1 e2 hK hoC h1 h2 F N yes _ => wpAny_mono (turn i va vb ys h tk Z oz o1 o2 o3 o4 C oC D m₂ _ e1 e2 hK hoC h1 h2 F N) yes fun _ _ e => e) (fun D C h tk ys m' hK hyl F N o hn hCL hC0 hne => ⟨m', hn, fun h'' hs'' => fin D h'' tk ys hK hyl (F.change hs'' hCL hC0) (fun q hq => ⟨hs''.extBut _ _ (hne q hq) (N q hq).1, (N q hq).2⟩) o⟩)
theorem zip_test {c elt iter : PySem.Expr} {a b : Str} {pa pb tp : Pos} {kk : Nat} {scope : Scope} {cl : List (Str × Addr)} {pos : Pos} {Q : Value → Shared → Prop} {l1 l2 : Addr} {xs us : List Value} {n1 n2 : Nat} {news : List (Addr × Obj)} (K : Nat → List Value → Prop)
    (hh : A.handled = none) (hm1 : (l1, listOf xs.toArray n1) ∈ news) (hm2 : (l2, listOf us.toArray n2) ∈ news) (F : Fr h₀ L s.heap m) (N : News h₀ L s.heap news) (hlen : xs.length = us.length) (hsz : xs.length ≤ 1000)
    (hcell : ∀ y ∈ scope.names, y.2 ≠ .cell) (hkind : scope.kind = .function) (hxa : scope.names.lookup a = some .local) (hxb : scope.names.lookup b = some .local) (hab : ¬ a = b) (K0 : K 0 [])
    (turn : ∀ i va vb ys h tk (Z : Nat) oz o1 o2 o3 o4 C oC D m₂ (E' : Value → Shared → Prop), xs[i]? = some va → us[i]? = some vb → K i ys → NsObj oC m₂ → m₂ a = some va → m₂ b = some vb → Fr h₀ L h m → News h₀ L h (ITS Z oz o1 o2 o3 o4 C oC D ys news) →
      wpAny (model prog w) A (isTrue c (compEnvC scope cl C env) (eval c (compEnvC scope cl C env))) (fun ok s' => if ok = true then wpAny (model prog w) A (eval elt (compEnvC scope cl C env)) (ZEnd h₀ L m { s with heap := h, toks := tk } (ITS Z oz o1 o2 o3 o4 C oC D ys news) (fun y => K (i + 1) (ys ++ [y]))) E' s' else (ZEnd h₀ L m { s with heap := h, toks := tk } (ITS Z oz o1 o2 o3 o4 C oC D ys news) (fun _ => K (i + 1) ys)) .none s') E' { s with heap := h, toks := tk })
    (fin : ∀ D h tk ys, K xs.length ys → ys.length ≤ xs.length → Fr h₀ L h m → News h₀ L h ((D, lst ys) :: news) → OffA D (keysOf news) → Q (.ref D) { s with heap := h, toks := tk }) :
    wpAny (model prog w) A (call (.type "zip") [.ref l1, .ref l2]) (fun xv s₁ => wpAny (model prog w) A (pyIter xv) (fun it s₂ => ZC prog w A E env elt (.Tuple [.Name a pa, .Name b pb] kk tp) iter [c] scope cl pos Q it s₂) E s₁) E s := by
  exact zip_core (use := none) (QQ := Q) K (fun env' acc R nx s₂ => wpAny (model prog w) A (isTrue c env' (eval c env')) (fun ok s₃ => if ok = true then wpAny (model prog w) A (eval elt env') (fun x s₄ => wpAny (model prog w) A (call (.builtin "list.append") [acc, x]) (fun _ s₅ => nx s₅) (notedBy (model prog w) A env' fun e s' => R (.error e) s') s₄) (notedBy (model prog w) A env' fun e s' => R (.error e) s') s₃ else nx s₃) (notedBy (model prog w) A env' fun e s' => R (.error e) s') s₂) kct_loop hh hm1 hm2 F N hlen hsz hcell hkind hxa hxb hab K0 (fun i va vb ys h tk Z oz o1 o2 o3 o4 C oC D m₂ R nx e1 e2 hK hoC h1 h2 F N yes no => wpAny_mono (turn i va vb ys h tk Z oz o1 o2 o3 o4 C oC D m₂ _ e1 e2 hK hoC h1 h2 F N) (fun ok s₅ hq => zip_if yes no hq) fun _ _ e => e) (fun D C h tk ys m' hK hyl F N o hn hCL hC0 hne => ⟨m', hn, fun h'' hs'' => fin D h'' tk ys hK hyl (F.change hs'' hCL hC0) (fun q hq => ⟨hs''.extBut _ _ (hne q hq) (N q hq).1, (N q hq).2⟩) o⟩)
noncomputable def ZCA (prog : Program) (w : World) (A : Around) (E : Value → Shared → Prop) (env : Env) (elt tgt iter : PySem.Expr) (ifs : List PySem.Expr) (scope : Scope) (cl : List (Str × Addr)) (pos : Pos) (y : Str) (py : Pos) (Q : Flow → Shared → Prop) (it : Value) (s₂ : Shared) : Prop :=
  wpAny (model prog w) A (newList []) (fun acc s₃ => wpAny (model prog w) A (newFunctionEnv scope env.globals cl [] env.qual none .none (some env)) (fun cenv s₄ =>
    codeAny (model prog w) A (.compStart (.ListComp elt [⟨tgt, iter, ifs, 0⟩] scope pos) 0 it acc { cenv with scope := relabel scope env }) (compPost (model prog w) A E (some (assign (.Name y py) env)) (fun _ s' => Q .next s') acc cenv.locals) s₄) E s₃) E s₂
theorem zca_start {elt tgt iter : PySem.Expr} {ifs : List PySem.Expr} {scope : Scope} {cl : List (Str × Addr)} {pos spos : Pos} {y : Str} {py : Pos} {Q : Flow → Shared → Prop}
    (hsw : swapsWith (.ListComp elt [⟨tgt, iter, ifs, 0⟩] scope pos) (some (.Name y py)) spos.line env = pure true)
    (hclos : closureFor scope env = pure cl) (hkind : scope.kind = .function) (hnames : ∀ x ∈ scope.names, x.2 = .local → scope.names.lookup x.1 = some .local)
    (h : wpAny (model prog w) A (eval iter env) (fun xv s₁ => wpAny (model prog w) A (pyIter xv) (fun it s₂ => ZCA prog w A E env elt tgt iter ifs scope cl pos y py Q it s₂) E s₁) E s)
    (hs : ∀ x, foldedSetIterable iter env x = pure x := by intro _; rfl) :
    wpAny (model prog w) A (exec (.Assign [.Name y py] (.ListComp elt [⟨tgt, iter, ifs, 0⟩] scope pos) spos) env) Q E s := by
  rw [exec_Assign_Name_used _ _ _ _ hsw]
  refine wpAny_bind (wpAny_standAt (wpAny_bind ?_))
  show wpAny _ A (do let _ ← comprehension (.ListComp elt [⟨tgt, iter, ifs, 0⟩] scope pos) scope env _ (newList []) false (eval iter env) (some (assign (.Name y py) env))) _ _ s
  exact wpAny_bind (wpAny_mono (wpAny_comprehension_free (use := some (assign (.Name y py) env)) (Q := fun _ s' => Q .next s') rfl hs hclos hkind hnames h) (fun _ s' hq => wpAny_pure (wpAny_pure hq)) fun _ _ e => e)

theorem zip_testA {c elt iter : PySem.Expr} {a b : Str} {pa pb tp : Pos} {kk : Nat} {scope : Scope} {cl : List (Str × Addr)} {pos : Pos} {Q : Flow → Shared → Prop} {yn : Str} {pyn : Pos} {l1 l2 : Addr} {xs us : List Value} {n1 n2 : Nat} {news : List (Addr × Obj)} (K : Nat → List Value → Prop)
    (hLe : env.locals = L) (hy : env.kindOf yn = some .local) (hpc : (env.scope.kind == .class || (env.scope.kind == .module && env.locals != env.globals)) = false) (hh : A.handled = none) (hm1 : (l1, listOf xs.toArray n1) ∈ news) (hm2 : (l2, listOf us.toArray n2) ∈ news) (F : Fr h₀ L s.heap m) (N : News h₀ L s.heap news) (hlen : xs.length = us.length) (hsz : xs.length ≤ 1000)
    (hcell : ∀ y ∈ scope.names, y.2 ≠ .cell) (hkind : scope.kind = .function) (hxa : scope.names.lookup a = some .local) (hxb : scope.names.lookup b = some .local) (hab : ¬ a = b) (K0 : K 0 [])
    (turn : ∀ i va vb ys h tk (Z : Nat) oz o1 o2 o3 o4 C oC D m₂ (E' : Value → Shared → Prop), xs[i]? = some va → us[i]? = some vb → K i ys → NsObj oC m₂ → m₂ a = some va → m₂ b = some vb → Fr h₀ L h m → News h₀ L h (ITS Z oz o1 o2 o3 o4 C oC D ys news) →
      wpAny (model prog w) A (isTrue c (compEnvC scope cl C env) (eval c (compEnvC scope cl C env))) (fun ok s' => if ok = true then wpAny (model prog w) A (eval elt (compEnvC scope cl C env)) (ZEnd h₀ L m { s with heap := h, toks := tk } (ITS Z oz o1 o2 o3 o4 C oC D ys news) (fun y => K (i + 1) (ys ++ [y]))) E' s' else (ZEnd h₀ L m { s with heap := h, toks := tk } (ITS Z oz o1 o2 o3 o4 C oC D ys news) (fun _ => K (i + 1) ys)) .none s') E' { s with heap := h, toks := tk })
    (fin : ∀ D h tk ys, K xs.length ys → ys.length ≤ xs.length → Fr h₀ L h (fun z => if z = yn then some (.ref D) else m z) → News h₀ L h ((D, lst ys) :: news) → OffA D (keysOf news) → Q .next { s with heap := h, toks := tk }) :
    wpAny (model prog w) A (call (.type "zip") [.ref l1, .ref l2]) (fun xv s₁ => wpAny (model prog w) A (pyIter xv) (fun it s₂ => ZCA prog w A E env elt (.Tuple [.Name a pa, .Name b pb] kk tp) iter [c] scope cl pos yn pyn Q it s₂) E s₁) E s := by
  refine zip_core (use := some (assign (.Name yn pyn) env)) (QQ := fun _ s' => Q .next s') K (fun env' acc R nx s₂ => wpAny (model prog w) A (isTrue c env' (eval c env')) (fun ok s₃ => if ok = true then wpAny (model prog w) A (eval elt env') (fun x s₄ => wpAny (model prog w) A (call (.builtin "list.append") [acc, x]) (fun _ s₅ => nx s₅) (notedBy (model prog w) A env' fun e s' => R (.error e) s') s₄) (notedBy (model prog w) A env' fun e s' => R (.error e) s') s₃ else nx s₃) (notedBy (model prog w) A env' fun e s' => R (.error e) s') s₂) kct_loop hh hm1 hm2 F N hlen hsz hcell hkind hxa hxb hab K0 (fun i va vb ys h tk Z oz o1 o2 o3 o4 C oC D m₂ R nx e1 e2 hK hoC h1 h2 F N yes no => wpAny_mono (turn i va vb ys h tk Z oz o1 o2 o3 o4 C oC D m₂ _ e1 e2 hK hoC h1 h2 F N) (fun ok s₅ hq => zip_if yes no hq) fun _ _ e => e) (fun D C h tk ys m' hK hyl F₂ N₂ o hnC hCL hC0 hne => ?_)
  show wpAny _ A (assign (.Name yn pyn) env (.ref D)) _ _ _
  refine wpAny_assign_Name (wpAny_storeName_local hy (hLe ▸ F₂.ns) (fun h₃ hn₃ hs₃ => ?_) hpc)
  rw [hLe] at hn₃ hs₃
  have hL₀ : h₀.get? L = none := Heap.get?_none_of_le F₂.above
  have F₃ : Fr h₀ L h₃ (fun z => if z = yn then some (.ref D) else m z) := ⟨hn₃, fun b o e => hs₃.extBut b o (fun q => by rw [q, hL₀] at e; cases e) (F₂.keep b o e), F₂.above⟩
  refine ⟨m', hnC.sameBut hs₃ hCL, fun h'' hs'' => fin D h'' _ ys hK hyl (F₃.change hs'' hCL hC0) (fun q hq => ?_) o⟩
  have z := N₂ q hq
  exact ⟨hs''.extBut _ _ (hne q hq) (hs₃.extBut _ _ z.2.1 z.1), z.2⟩
end
end Mine
end
-- part CompS
namespace Mine
theorem calm_CompS (M : PySem.Model) (A : PySem.Around) (e : PySem.Env) (Q : PySem.Flow → PySem.Shared → Prop) (E : PySem.Value → PySem.Shared → Prop) (s : PySem.Shared) (h : PySem.wpAny M A (PySem.execs [] e) Q E s) : PySem.wpAny M A (PySem.execs [] e) Q E s := by
  w_top off
  first | (walk1; fail) | exact h
end Mine
section
open PySem PySem.W PyProof.Rows PySem.Spec PySem.Calls
set_option linter.unusedVariables false
set_option maxRecDepth 100000
namespace Mine
theorem roomD {dp u r : Nat} {gd : Option (List Code)} {fr : Option (List Env)} {env : Env} (h : dp + 40 < recursionLimit) (hr : r ≤ 30) : ((Ar dp u gd fr).deeper env).depth + r < recursionLimit := by
  show dp + 1 + r < _
  omega
theorem roomU {dp u r : Nat} {gd : Option (List Code)} {fr : Option (List Env)} {env : Env} (h : u + 400 < cLine) (hr : r ≤ 300) : ((Ar dp u gd fr).deeper env).units + r < cLine := by
  show u + 3 + r < _
  omega
section
open PyProof.Rows.LCg
variable {prog : Program} {w : World} {A : Around} {h₀ : Heap} {L : Addr} {m : Str → Option Value} {env : Env} {elt : PySem.Expr} {x : Str} {scope : Scope} {cl : List (Str × Addr)} {s : Shared} {S : List (Addr × Obj) → Prop} {P : Nat → Value → Prop} {Fin : List Value → List (Addr × Obj) → Prop} {news : List (Addr × Obj)}
noncomputable def MapI (f : Int → Str) : Prop := True
noncomputable def MapS (f : Str → Str) : Prop := True
theorem cs_yes {L I C D : Addr} {oI oC oD : Obj} {r r' : Str} {t : Tok} {h' : Heap} {tk : Nat} {s₁ : Shared} {all : List (Addr × Obj)} (F : Fr h₀ L h' m) (N : News h₀ L h' all) (off : Off3 I C D news) (hS : S news) (sub : ∀ q ∈ (I, oI) :: (C, oC) :: (D, oD) :: news, q ∈ all) (hr : r' = r) :
    CompEnd h₀ L m s₁ I oI C oC D oD S (fun y news' => PySem.W.KCtEl news r y news') (.str r' t) { s₁ with heap := h', toks := tk } := CompEnd.intro F N news sub off hS ⟨rfl, t, hr ▸ rfl⟩
theorem comp_map {α : Type} {n : Nat} {as : List α} (R : α → Value → Prop) (f : α → Str) (hks : as.length = n) (hP : ∀ i v, i < n → P i v → ∃ a, as[i]? = some a ∧ R a v)
    (turn : ∀ a v I oI C oC D m₂ ys h tk (E' : Value → Shared → Prop), R a v → a ∈ as → NsObj oC m₂ → m₂ x = some v → Fr h₀ L h m → News h₀ L h ((I, oI) :: (C, oC) :: (D, lst ys) :: news) → Off3 I C D news → ((@Ne Nat I C) ∧ (@Ne Nat I D) ∧ (@Ne Nat C D)) →
      wpAny (model prog w) A (eval elt (compEnvC scope cl C env)) (CompEnd h₀ L m { s with heap := h, toks := tk } I oI C oC D (lst ys) S (fun y news' => PySem.W.KCtEl news (f a) y news')) E' { s with heap := h, toks := tk })
    (fin : ∀ ys, StrsAre ys (as.map f) → Fin ys news) : CompRest prog w A h₀ L m env elt x scope cl s S P Fin n 0 [] news := by
  have key : ∀ (j i : Nat) (ys : List Value), i + j = n → StrsAre ys ((as.take i).map f) → CompRest prog w A h₀ L m env elt x scope cl s S P Fin j i ys news := by
    intro j
    induction j with
    | zero =>
      intro i ys hi hy
      have e : i = as.length := by omega
      subst e
      rw [List.take_length] at hy
      exact CompRest.zero (fin ys hy)
    | succ j ih =>
      intro i ys hi hy
      refine CompRest.succ ?_
      intro v I oI C oC D m₂ h tk E' hv hC hx F N off ne
      obtain ⟨a, ha, hR⟩ := hP i v (by omega) hv
      have hs : as.take (i + 1) = as.take i ++ [a] := by rw [List.take_add_one, ha]; rfl
      refine wpAny_mono (turn a v I oI C oC D m₂ ys h tk E' hR (List.mem_of_getElem? ha) hC hx F N off ne) (fun y s₃ hr => ?_) fun _ _ e => e
      obtain ⟨h', tk', nw, e, F', N', off', hS, rfl, t', rfl⟩ := hr
      refine ⟨h', tk', nw, e, F', N', off', hS, ih (i + 1) _ (by omega) ?_⟩
      rw [hs, List.map_append]
      exact hy.append' (.cons _ t' .nil)
  exact key n 0 [] (by omega) (by simp only [List.take_zero, List.map_nil]; exact .nil)
theorem comp_mapI {vs : List Value} {ns : List Int} {f : Int → Str} (hf : MapI f) (hi : IntsAre vs ns)
    (turn : ∀ k t I oI C oC D m₂ ys h tk (E' : Value → Shared → Prop), k ∈ ns → NsObj oC m₂ → m₂ x = some (.int k t) → Fr h₀ L h m → News h₀ L h ((I, oI) :: (C, oC) :: (D, lst ys) :: news) → Off3 I C D news →
      wpAny (model prog w) A (eval elt (compEnvC scope cl C env)) (CompEnd h₀ L m { s with heap := h, toks := tk } I oI C oC D (lst ys) S (fun y news' => PySem.W.KCtEl news (f k) y news')) E' { s with heap := h, toks := tk })
    (fin : ∀ ys, StrsAre ys (ns.map f) → Fin ys news) : CompRest prog w A h₀ L m env elt x scope cl s S (fun i v => vs.toArray[i]? = some v) Fin vs.toArray.size 0 [] news :=
  comp_map (fun k v => ∃ t, v = .int k t) f (by rw [List.size_toArray]; exact hi.length.symm) (fun i v _ hv => by
    obtain ⟨k, t, e, hk⟩ := IntsAre.at hi i v (by simpa using hv)
    exact ⟨k, hk, t, e⟩) (fun k v I oI C oC D m₂ ys h tk E' hR hm hC hx F N off _ => by
      obtain ⟨t, rfl⟩ := hR
      exact turn k t I oI C oC D m₂ ys h tk E' hm hC hx F N off) fin
theorem comp_mapS {vs : List Value} {xs : List Str} {f : Str → Str} (hf : MapS f) (hi : StrsAre vs xs)
    (turn : ∀ k t I oI C oC D m₂ ys h tk (E' : Value → Shared → Prop), k ∈ xs → NsObj oC m₂ → m₂ x = some (.str k t) → Fr h₀ L h m → News h₀ L h ((I, oI) :: (C, oC) :: (D, lst ys) :: news) → Off3 I C D news →
      wpAny (model prog w) A (eval elt (compEnvC scope cl C env)) (CompEnd h₀ L m { s with heap := h, toks := tk } I oI C oC D (lst ys) S (fun y news' => PySem.W.KCtEl news (f k) y news')) E' { s with heap := h, toks := tk })
    (fin : ∀ ys, StrsAre ys (xs.map f) → Fin ys news) : CompRest prog w A h₀ L m env elt x scope cl s S (fun i v => vs.toArray[i]? = some v) Fin vs.toArray.size 0 [] news :=
  comp_map (fun k v => ∃ t, v = .str k t) f (by rw [List.size_toArray]; exact hi.length.symm) (fun i v _ hv => by
    obtain ⟨y, t, hk, e⟩ := StrsAre.item hi i v (by simpa using hv)
    exact ⟨y, e, t, hk⟩) (fun k v I oI C oC D m₂ ys h tk E' hR hm hC hx F N off _ => by
      obtain ⟨t, rfl⟩ := hR
      exact turn k t I oI C oC D m₂ ys h tk E' hm hC hx F N off) fin
end
end Mine
end
-- part EqS
namespace Mine
theorem calm_EqS (M : PySem.Model) (A : PySem.Around) (e : PySem.Env) (Q : PySem.Flow → PySem.Shared → Prop) (E : PySem.Value → PySem.Shared → Prop) (s : PySem.Shared) (h : PySem.wpAny M A (PySem.execs [] e) Q E s) : PySem.wpAny M A (PySem.execs [] e) Q E s := by
  w_top off
  first | (walk1; fail) | exact h
end Mine
section
open PySem PySem.W PyProof.Rows PySem.Spec PySem.Calls PyProof.V
set_option linter.unusedVariables false
set_option maxRecDepth 100000
namespace Mine
noncomputable def OkS (ys : List Str) : Prop := ∀ y ∈ ys, PyData.strOk y = true
theorem ss_can : ∀ ys : List Str, OkS ys → PyData.canLayAll0 (ys.map PyData.str) = true
  | [], _ => rfl
  | a :: r, h => by simp [PyData.canLayAll0, PyData.canLay0, ss_can r (fun y hy => h y (List.mem_cons_of_mem _ hy)), h a (List.mem_cons_self ..)]
theorem ss_shaped (ys : List Str) (h : OkS ys) : SeqAt.shaped (.list (ys.map PyData.str)) = true := by
  simp [SeqAt.shaped, PyData.canLay0, PyData.depth, ss_can ys h, PyProof.Rows.depthAll_strs']
theorem ss_sameAll (xs ys : List Str) : PySem.Spec.sameAll (xs.map PyData.str) (ys.map PyData.str) = decide (xs = ys) := by
  induction xs generalizing ys with
  | nil => cases ys <;> simp [PySem.Spec.sameAll]
  | cons a r ih =>
    cases ys with
    | nil => simp [PySem.Spec.sameAll]
    | cons b t =>
      have e : (a == b) = decide (a = b) := by by_cases h : a = b <;> simp [h]
      rw [List.map_cons, List.map_cons, PySem.Spec.sameAll, ih, PySem.Spec.same, e, ← Bool.decide_and]
      simp only [List.cons.injEq]
theorem ss_same (xs ys : List Str) : PySem.Spec.same (.list (xs.map PyData.str)) (.list (ys.map PyData.str)) = decide (xs = ys) := by
  simp only [PySem.Spec.same]; exact ss_sameAll xs ys
section
variable {prog : Program} {w : World} {A : Around} {E : Value → Shared → Prop} {s : Shared} {a b : Addr} {vs us : List Value} {xs ys : List Str} {Q : Value → Shared → Prop}
theorem ne_strs (ha : s.heap.IsList a vs.toArray) (hb : s.heap.IsList b us.toArray) (hi : StrsAre vs xs) (hj : StrsAre us ys) (h1 : OkS xs) (h2 : OkS ys) (hu : A.units + 64 < cLine) (h : Q (.bool (!decide (xs = ys))) s) :
    wpAny (model prog w) A (compareOp .NotEq (.ref a) (.ref b)) Q E s :=
  ne_dataH_same (reads_newData ha (PyProof.Rows.StrsAre.carried hi)) (reads_newData hb (PyProof.Rows.StrsAre.carried hj)) (ss_shaped _ h1) (ss_shaped _ h2) hu (SeqAt.noMix_of_shape (.list .str) rfl _ _ (list_map_has fun _ => rfl) (list_map_has fun _ => rfl)) (by rw [ss_same]; exact h)
theorem eq_strs (ha : s.heap.IsList a vs.toArray) (hb : s.heap.IsList b us.toArray) (hi : StrsAre vs xs) (hj : StrsAre us ys) (h1 : OkS xs) (h2 : OkS ys) (hu : A.units + 64 < cLine) (h : Q (.bool (decide (xs = ys))) s) :
    wpAny (model prog w) A (compareOp .Eq (.ref a) (.ref b)) Q E s :=
  eq_dataH_same (reads_newData ha (PyProof.Rows.StrsAre.carried hi)) (reads_newData hb (PyProof.Rows.StrsAre.carried hj)) (ss_shaped _ h1) (ss_shaped _ h2) hu (SeqAt.noMix_of_shape (.list .str) rfl _ _ (list_map_has fun _ => rfl) (list_map_has fun _ => rfl)) (by rw [ss_same]; exact h)
theorem ne_strs_same (ha : s.heap.IsList a vs.toArray) (hb : s.heap.IsList b us.toArray) (hi : StrsAre vs xs) (hj : StrsAre us ys) (he : xs = ys) (h1 : OkS xs) (hu : A.units + 64 < cLine) (h : Q (.bool false) s) :
    wpAny (model prog w) A (compareOp .NotEq (.ref a) (.ref b)) Q E s := ne_strs ha hb hi hj h1 (he ▸ h1) hu (by rw [decide_eq_true he]; exact h)
theorem eq_strs_same (ha : s.heap.IsList a vs.toArray) (hb : s.heap.IsList b us.toArray) (hi : StrsAre vs xs) (hj : StrsAre us ys) (he : xs = ys) (h1 : OkS xs) (hu : A.units + 64 < cLine) (h : Q (.bool true) s) :
    wpAny (model prog w) A (compareOp .Eq (.ref a) (.ref b)) Q E s := eq_strs ha hb hi hj h1 (he ▸ h1) hu (by rw [decide_eq_true he]; exact h)
end
end Mine
end
-- part PlL
namespace Mine
theorem calm_PlL (M : PySem.Model) (A : PySem.Around) (e : PySem.Env) (Q : PySem.Flow → PySem.Shared → Prop) (E : PySem.Value → PySem.Shared → Prop) (s : PySem.Shared) (h : PySem.wpAny M A (PySem.execs [] e) Q E s) : PySem.wpAny M A (PySem.execs [] e) Q E s := by
  w_top off
  first | (walk1; fail) | exact h
end Mine
section
open PySem PySem.W PyProof.Rows PySem.Spec PySem.Calls
set_option linter.unusedVariables false
set_option maxRecDepth 100000
namespace Mine
theorem nameT_len (x : Int) : (nameT x).length = 3 := by
  unfold nameT
  rw [PySem.strLen_append, PySem.strLen_append, PyProof.Rows.len_item, PyProof.Rows.len_item]; decide +kernel
theorem g3_len (s : Str) (b : Int) (mk : Str) (sp : Int) : (g3 s b mk sp).length = s.length + 3 := by
  unfold g3
  rw [PySem.strLen_append, PySem.strLen_append, PySem.strLen_append, PyProof.Rows.len_item, PyProof.Rows.len_item, PyProof.Rows.len_item]
theorem signsT_len (x : Int) : (signsT x).length = 10 := by
  unfold signsT
  rw [g3_len, g3_len, g3_len]
  split <;> decide +kernel
noncomputable def Is (z y : Str) : Prop := y = z
theorem PC0.mono {w : World} {p : Program} {loose : List Str} {mean : ExcName → Option Value} {mg mb : Str → Option Value} {f : Addr} {rm un : Nat} {vs : List Value} {R R' : Value → Prop} (C : PC0 w p loose mean mg mb f rm un vs R) (h : ∀ r, R r → R' r) : PC0 w p loose mean mg mb f rm un vs R' := by
  unfold PC0 at C ⊢
  intro dp u gd fr s E X T hdp hun
  exact wpAny_mono (C dp u gd fr s E X T hdp hun) (fun r s' hr => ⟨h r hr.1, hr.2⟩) fun _ _ e => e
noncomputable def OpS (z : Str) (n : Nat) (r : Value) : Prop := ∃ y t, r = .str y t ∧ Is z y ∧ y.length = n
theorem OpS.of {z : Str} {n : Nat} (h : z.length = n) (r : Value) (hr : IsS z r) : OpS z n r := by
  obtain ⟨t, rfl⟩ := hr
  exact ⟨z, t, rfl, rfl, h⟩
theorem modeT_len (x : Int) : (modeT x).length ≤ 10 := by
  have e : (modeT x).length = (modeT x).cps.toList.length := rfl
  have hp : ∀ i es, (∀ e ∈ (es : List (Addr × Int × Str)), e.2.2.length ≤ 1) → (pick i x es).cps.toList.length ≤ 1 := fun i es h => pick_len i x es h
  have hj : (modeT x).cps.toList = flatP [pick 0 x (tbl 0), pick 1 x (tbl 1), pick 2 x (tbl 2), pick 3 x (tbl 3), pick 4 x (tbl 4), pick 5 x (tbl 5), pick 6 x (tbl 6), pick 7 x (tbl 7), pick 8 x (tbl 8), pick 9 x (tbl 9)] := join_flat _
  rw [e, hj]
  simp only [flatP, List.flatMap_cons, List.flatMap_nil, List.length_append, List.length_nil]
  have h0 := hp 0 (tbl 0) (by decide +kernel)
  have h1 := hp 1 (tbl 1) (by decide +kernel)
  have h2 := hp 2 (tbl 2) (by decide +kernel)
  have h3 := hp 3 (tbl 3) (by decide +kernel)
  have h4 := hp 4 (tbl 4) (by decide +kernel)
  have h5 := hp 5 (tbl 5) (by decide +kernel)
  have h6 := hp 6 (tbl 6) (by decide +kernel)
  have h7 := hp 7 (tbl 7) (by decide +kernel)
  have h8 := hp 8 (tbl 8) (by decide +kernel)
  have h9 := hp 9 (tbl 9) (by decide +kernel)
  omega
noncomputable def modeI (x : Int) : Int := (if x.fmod 2 = 1 then 16384 else 32768) + (x.fdiv 2).fmod 4096
noncomputable def rowT (x : Int) : Str := nameT x ++ signsT x
theorem addsz {a b : Nat} (h1 : a ≤ 20000) (h2 : b ≤ 20000) : a + b ≤ sizeLine := Nat.le_trans (Nat.add_le_add h1 h2) (by decide)
section
variable (w : World) (p : Program) (loose : List Str) (mean : ExcName → Option Value) (mg mb : Str → Option Value)
theorem o_name (x : Int) (t : Tok) : PC0 w p loose mean mg mb 126 3 40 [.int x t] (OpS (nameT x) 3) := (c_name w p loose mean mg mb x t).mono (OpS.of (nameT_len x))
theorem o_signs (x : Int) (t : Tok) : PC0 w p loose mean mg mb 133 3 40 [.int x t] (OpS (signsT x) 10) := (c_signs w p loose mean mg mb x t).mono (OpS.of (signsT_len x))
theorem o_mode (x : Int) (t : Tok) : PC0 w p loose mean mg mb 119 10 100 [.int x t] (fun r => ∃ y t', r = .str y t' ∧ Is (modeT x) y ∧ y.length ≤ 10) := (c_filemode w p loose mean mg mb x t).mono fun r hr => by
  obtain ⟨t', rfl⟩ := hr
  exact ⟨_, t', rfl, rfl, modeT_len x⟩
end
end Mine
end
-- part PlM
namespace Mine
theorem calm_PlM (M : PySem.Model) (A : PySem.Around) (e : PySem.Env) (Q : PySem.Flow → PySem.Shared → Prop) (E : PySem.Value → PySem.Shared → Prop) (s : PySem.Shared) (h : PySem.wpAny M A (PySem.execs [] e) Q E s) : PySem.wpAny M A (PySem.execs [] e) Q E s := by
  w_top off
  first | (walk1; fail) | exact h
end Mine
section
open PySem PySem.W PyProof.Rows PySem.Spec PySem.Calls
set_option linter.unusedVariables false
set_option linter.unusedSimpArgs false
set_option maxRecDepth 100000
namespace Mine
noncomputable def tl (x : Str) : List Nat := x.cps.toList
theorem tl_app (x y : Str) : tl (x ++ y) = tl x ++ tl y := by
  show (x.cps ++ y.cps).toList = _
  simp [tl]
theorem str_ext {x y : Str} (h : tl x = tl y) : x = y := by
  obtain ⟨a⟩ := x
  obtain ⟨b⟩ := y
  have : a = b := Array.toList_inj.mp h
  rw [this]
theorem and_pow (m i : Nat) : (m &&& 2 ^ i = 2 ^ i) ↔ m / 2 ^ i % 2 = 1 := by
  have hb : m.testBit i = decide (m / 2 ^ i % 2 = 1) := Nat.testBit_eq_decide_div_mod_eq
  constructor
  · intro h
    have e : (m &&& 2 ^ i).testBit i = (2 ^ i).testBit i := by rw [h]
    rw [Nat.testBit_and, Nat.testBit_two_pow, decide_eq_true rfl, Bool.and_true, hb] at e
    exact of_decide_eq_true e
  · intro h
    rw [decide_eq_true h] at hb
    apply Nat.eq_of_testBit_eq
    intro k
    rw [Nat.testBit_and, Nat.testBit_two_pow]
    by_cases hk : i = k
    · subst hk; rw [hb]; simp
    · simp [hk]
theorem and_two (m i j : Nat) (hij : i ≠ j) : (m &&& (2 ^ i ||| 2 ^ j) = (2 ^ i ||| 2 ^ j)) ↔ (m / 2 ^ i % 2 = 1 ∧ m / 2 ^ j % 2 = 1) := by
  rw [← and_pow, ← and_pow]
  constructor
  · intro h
    constructor
    · have e : m &&& (2 ^ i ||| 2 ^ j) &&& 2 ^ i = (2 ^ i ||| 2 ^ j) &&& 2 ^ i := by rw [h]
      rw [Nat.and_assoc, Nat.and_comm (2 ^ i ||| 2 ^ j)] at e
      have e2 : 2 ^ i &&& (2 ^ i ||| 2 ^ j) = 2 ^ i := by
        apply Nat.eq_of_testBit_eq
        intro k
        simp only [Nat.testBit_and, Nat.testBit_or]
        cases (2 ^ i).testBit k <;> simp
      rw [e2] at e
      exact e
    · have e : m &&& (2 ^ i ||| 2 ^ j) &&& 2 ^ j = (2 ^ i ||| 2 ^ j) &&& 2 ^ j := by rw [h]
      rw [Nat.and_assoc, Nat.and_comm (2 ^ i ||| 2 ^ j)] at e
      have e2 : 2 ^ j &&& (2 ^ i ||| 2 ^ j) = 2 ^ j := by
        apply Nat.eq_of_testBit_eq
        intro k
        simp only [Nat.testBit_and, Nat.testBit_or]
        cases (2 ^ j).testBit k <;> simp
      rw [e2] at e
      exact e
  · rintro ⟨h1, h2⟩
    rw [Nat.and_or_distrib_left, h1, h2]
theorem and_nat (m b : Nat) : Builtin.bitAnd (m : Int) (b : Int) = ((m &&& b : Nat) : Int) := by
  unfold Builtin.bitAnd
  rw [decide_eq_true (Int.natCast_nonneg m), decide_eq_true (Int.natCast_nonneg b)]
  rfl
theorem hit_nat (m b : Nat) : (Builtin.bitAnd (m : Int) (b : Int) = (b : Int)) ↔ (m &&& b = b) := by
  rw [and_nat]
  omega
theorem high_and (m : Nat) (h : m < 65536) : m &&& 61440 = m / 4096 * 4096 := by
  apply Nat.eq_of_testBit_eq
  intro k
  have e : (61440 : Nat) = 15 * 2 ^ 12 := by decide
  have e2 : m / 4096 * 4096 = (m / 2 ^ 12) * 2 ^ 12 := by rfl
  rw [e, e2, Nat.testBit_and, Nat.testBit_mul_two_pow, Nat.testBit_mul_two_pow]
  by_cases hk : 12 ≤ k
  · simp only [hk, decide_true, Bool.true_and]
    rw [Nat.testBit_div_two_pow]
    have e3 : k - 12 + 12 = k := by omega
    rw [e3]
    by_cases hk2 : k < 16
    · have : (15 : Nat).testBit (k - 12) = true := by
        have : k - 12 = 0 ∨ k - 12 = 1 ∨ k - 12 = 2 ∨ k - 12 = 3 := by omega
        rcases this with h | h | h | h <;> rw [h] <;> decide
      rw [this, Bool.and_true]
    · have : m.testBit k = false := Nat.testBit_lt_two_pow (Nat.lt_of_lt_of_le h (by
        have : 2 ^ 16 ≤ 2 ^ k := Nat.pow_le_pow_right (by decide) (by omega)
        exact this))
      rw [this, Bool.false_and]
  · simp [hk]
noncomputable def sR (e : Int) : Str := if e = 1 then ⟨#[114]⟩ else ⟨#[45]⟩
noncomputable def sW (e : Int) : Str := if e = 1 then ⟨#[119]⟩ else ⟨#[45]⟩
noncomputable def sX (a e : Int) : Str := if a = 1 ∧ e = 1 then ⟨#[115]⟩ else if a = 1 then ⟨#[83]⟩ else if e = 1 then ⟨#[120]⟩ else ⟨#[45]⟩
noncomputable def sT (a e : Int) : Str := if a = 1 ∧ e = 1 then ⟨#[116]⟩ else if a = 1 then ⟨#[84]⟩ else if e = 1 then ⟨#[120]⟩ else ⟨#[45]⟩
noncomputable def sD (e : Int) : Str := if e = 1 then ⟨#[100]⟩ else ⟨#[45]⟩
noncomputable def bit (y : Int) (n : Int) : Int := y / n % 2
theorem bit01 (y : Int) (n : Int) : bit y n = 0 ∨ bit y n = 1 := by
  unfold bit; omega
theorem itR {e : Int} (h : e = 0 ∨ e = 1) : Txt.item (Str.ofString "-r") e = sR e := by
  rcases h with rfl | rfl <;> decide +kernel
theorem itW {e : Int} (h : e = 0 ∨ e = 1) : Txt.item (Str.ofString "-w") e = sW e := by
  rcases h with rfl | rfl <;> decide +kernel
theorem itX {a e : Int} (h : a = 0 ∨ a = 1) (h2 : e = 0 ∨ e = 1) : Txt.item (Str.ofString "-xSs") (a * 2 + e) = sX a e := by
  rcases h with rfl | rfl <;> rcases h2 with rfl | rfl <;> decide +kernel
theorem itT {a e : Int} (h : a = 0 ∨ a = 1) (h2 : e = 0 ∨ e = 1) : Txt.item (Str.ofString "-xTt") (a * 2 + e) = sT a e := by
  rcases h with rfl | rfl <;> rcases h2 with rfl | rfl <;> decide +kernel
noncomputable def signsL (k y : Int) : List Str := [sD k, sR (bit y 256), sW (bit y 128), sX (bit y 2048) (bit y 64), sR (bit y 32), sW (bit y 16), sX (bit y 1024) (bit y 8), sR (bit y 4), sW (bit y 2), sT (bit y 512) (bit y 1)]
theorem bd4 (z : Int) : z % 8 / 4 = z / 4 % 2 := by omega
theorem bd2 (z : Int) : z % 8 / 2 % 2 = z / 2 % 2 := by omega
theorem bd1 (z : Int) : z % 8 % 2 = z % 2 := by omega
theorem signs_tl (x : Int) : tl (signsT x) = flatP (signsL (x % 2) (x / 2)) := by
  unfold signsT
  generalize hy : x.fdiv 2 = y
  have hy' : y = x / 2 := by rw [← hy, PyProof.Rows.fdiv_eq _ (by decide)]
  rw [PyProof.Rows.fmod_eq x (b := 2) (by decide), ← hy']
  have e0 : Str.ofString (if x % 2 = 1 then "d" else "-") = sD (x % 2) := by
    unfold sD
    split <;> decide +kernel
  rw [e0]
  unfold g3
  have a1 : ((y.fdiv 64).fmod 8).fdiv 4 = bit y 256 := by
    rw [PyProof.Rows.fdiv_eq _ (by decide), PyProof.Rows.fmod_eq _ (by decide), PyProof.Rows.fdiv_eq _ (by decide), bd4, Int.ediv_ediv_of_nonneg (by decide)]; rfl
  have a2 : (((y.fdiv 64).fmod 8).fdiv 2).fmod 2 = bit y 128 := by
    rw [PyProof.Rows.fmod_eq _ (by decide), PyProof.Rows.fdiv_eq _ (by decide), PyProof.Rows.fmod_eq _ (by decide), PyProof.Rows.fdiv_eq _ (by decide), bd2, Int.ediv_ediv_of_nonneg (by decide)]; rfl
  have a3 : ((y.fdiv 64).fmod 8).fmod 2 = bit y 64 := by
    rw [PyProof.Rows.fmod_eq _ (by decide), PyProof.Rows.fmod_eq _ (by decide), PyProof.Rows.fdiv_eq _ (by decide), bd1]; rfl
  have a4 : (y.fdiv (512 * 4)).fmod 2 = bit y 2048 := by
    rw [PyProof.Rows.fmod_eq _ (by decide), PyProof.Rows.fdiv_eq _ (by decide)]; rfl
  have b1 : ((y.fdiv 8).fmod 8).fdiv 4 = bit y 32 := by
    rw [PyProof.Rows.fdiv_eq _ (by decide), PyProof.Rows.fmod_eq _ (by decide), PyProof.Rows.fdiv_eq _ (by decide), bd4, Int.ediv_ediv_of_nonneg (by decide)]; rfl
  have b2 : (((y.fdiv 8).fmod 8).fdiv 2).fmod 2 = bit y 16 := by
    rw [PyProof.Rows.fmod_eq _ (by decide), PyProof.Rows.fdiv_eq _ (by decide), PyProof.Rows.fmod_eq _ (by decide), PyProof.Rows.fdiv_eq _ (by decide), bd2, Int.ediv_ediv_of_nonneg (by decide)]; rfl
  have b3 : ((y.fdiv 8).fmod 8).fmod 2 = bit y 8 := by
    rw [PyProof.Rows.fmod_eq _ (by decide), PyProof.Rows.fmod_eq _ (by decide), PyProof.Rows.fdiv_eq _ (by decide), bd1]; rfl
  have b4 : (y.fdiv (512 * 2)).fmod 2 = bit y 1024 := by
    rw [PyProof.Rows.fmod_eq _ (by decide), PyProof.Rows.fdiv_eq _ (by decide)]; rfl
  have c1 : ((y.fdiv 1).fmod 8).fdiv 4 = bit y 4 := by
    rw [PyProof.Rows.fdiv_eq _ (by decide), PyProof.Rows.fmod_eq _ (by decide), PyProof.Rows.fdiv_eq _ (by decide), bd4, Int.ediv_ediv_of_nonneg (by decide)]; rfl
  have c2 : (((y.fdiv 1).fmod 8).fdiv 2).fmod 2 = bit y 2 := by
    rw [PyProof.Rows.fmod_eq _ (by decide), PyProof.Rows.fdiv_eq _ (by decide), PyProof.Rows.fmod_eq _ (by decide), PyProof.Rows.fdiv_eq _ (by decide), bd2, Int.ediv_ediv_of_nonneg (by decide)]; rfl
  have c3 : ((y.fdiv 1).fmod 8).fmod 2 = bit y 1 := by
    rw [PyProof.Rows.fmod_eq _ (by decide), PyProof.Rows.fmod_eq _ (by decide), PyProof.Rows.fdiv_eq _ (by decide), bd1]; rfl
  have c4 : (y.fdiv (512 * 1)).fmod 2 = bit y 512 := by
    rw [PyProof.Rows.fmod_eq _ (by decide), PyProof.Rows.fdiv_eq _ (by decide)]; rfl
  rw [a1, a2, a3, a4, b1, b2, b3, b4, c1, c2, c3, c4, itR (bit01 _ _), itW (bit01 _ _), itX (bit01 _ _) (bit01 _ _), itR (bit01 _ _), itW (bit01 _ _), itX (bit01 _ _) (bit01 _ _), itR (bit01 _ _), itW (bit01 _ _), itT (bit01 _ _) (bit01 _ _)]
  simp only [tl_app, signsL, flatP, List.flatMap_cons, List.flatMap_nil, List.append_nil, List.append_assoc]
  rfl
theorem modeI_nat (x : Int) : ∃ m : Nat, modeI x = (m : Int) ∧ m < 65536 ∧ (m / 4096 = if x % 2 = 1 then 4 else 8) ∧ ((m : Int) % 4096 = (x / 2) % 4096) := by
  unfold modeI
  rw [PyProof.Rows.fmod_eq x (b := 2) (by decide), PyProof.Rows.fmod_eq _ (b := 4096) (by decide), PyProof.Rows.fdiv_eq x (b := 2) (by decide)]
  have h0 := Int.emod_nonneg (x / 2) (show (4096 : Int) ≠ 0 by decide)
  have h1 := Int.emod_lt_of_pos (x / 2) (show (0 : Int) < 4096 by decide)
  generalize x / 2 % 4096 = r at h0 h1 ⊢
  obtain ⟨k, rfl⟩ := Int.eq_ofNat_of_zero_le h0
  by_cases hx : x % 2 = 1
  · simp only [if_pos hx]
    exact ⟨16384 + k, rfl, by omega, by omega, by omega⟩
  · simp only [if_neg hx]
    exact ⟨32768 + k, rfl, by omega, by omega, by omega⟩
theorem mbit {m : Nat} {y : Int} (h : (m : Int) % 4096 = y % 4096) : ∀ i, i ≤ 11 → (m / 2 ^ i % 2 = 1 ↔ bit y (2 ^ i : Nat) = 1) := by
  intro i hi
  have hk : y = (m : Int) + 4096 * (y / 4096 - (m : Int) / 4096) := by omega
  generalize y / 4096 - (m : Int) / 4096 = k at hk
  have h11 : (4096 : Nat) = 2 ^ i * (2 * 2 ^ (11 - i)) := by
    rw [← Nat.mul_assoc, Nat.mul_comm (2 ^ i) 2, Nat.mul_assoc, ← Nat.pow_add, show i + (11 - i) = 11 by omega]
  have h12 : (4096 : Int) = ((2 ^ i : Nat) : Int) * (2 * ((2 ^ (11 - i) : Nat) : Int)) := by
    have := congrArg (fun n : Nat => (n : Int)) h11
    simpa using this
  have hb : (0 : Int) < ((2 ^ i : Nat) : Int) := Int.natCast_pos.mpr (Nat.two_pow_pos i)
  unfold bit
  rw [hk, h12, Int.mul_assoc, Int.mul_assoc, Int.add_mul_ediv_left _ _ (Int.ne_of_gt hb), Int.add_mul_emod_self_left, ← Int.natCast_ediv]
  omega
theorem dash : Str.ofString "-" = ⟨#[45]⟩ := by decide +kernel
theorem one_pick {i : Nat} {x : Int} {a : Addr} {b : Int} {c : Str} (hi : i ≠ 0) : pick i x [(a, b, c)] = if hitB i x b then c else ⟨#[45]⟩ := by
  unfold pick
  split
  · rfl
  · unfold pick
    rw [if_neg hi, dash]
theorem three_pick {i : Nat} {x : Int} {a1 a2 a3 : Addr} {b1 b2 b3 : Int} {c1 c2 c3 : Str} (hi : i ≠ 0) : pick i x [(a1, b1, c1), (a2, b2, c2), (a3, b3, c3)] = if hitB i x b1 then c1 else if hitB i x b2 then c2 else if hitB i x b3 then c3 else ⟨#[45]⟩ := by
  unfold pick
  split
  · rfl
  · unfold pick
    split
    · rfl
    · exact one_pick hi
theorem hit_one {i : Nat} {m : Nat} {y : Int} (hm : (m : Int) % 4096 = y % 4096) (hi : i ≠ 0) (j : Nat) (hj : j ≤ 11) : hitB i (m : Int) ((2 ^ j : Nat) : Int) ↔ bit y ((2 ^ j : Nat) : Int) = 1 := by
  unfold hitB
  rw [if_neg hi, decide_eq_true_iff]
  exact (hit_nat m (2 ^ j)).trans ((and_pow m j).trans (mbit hm j hj))
theorem hit_two {i : Nat} {m : Nat} {y : Int} (hm : (m : Int) % 4096 = y % 4096) (hi : i ≠ 0) (j k : Nat) (hjk : j ≠ k) (hj : j ≤ 11) (hk : k ≤ 11) : hitB i (m : Int) ((2 ^ j ||| 2 ^ k : Nat) : Int) ↔ (bit y ((2 ^ j : Nat) : Int) = 1 ∧ bit y ((2 ^ k : Nat) : Int) = 1) := by
  unfold hitB
  rw [if_neg hi, decide_eq_true_iff]
  exact (hit_nat m _).trans ((and_two m j k hjk).trans (and_congr (mbit hm j hj) (mbit hm k hk)))
theorem ite_iff {p q : Prop} [Decidable p] [Decidable q] {a b : Str} (h : p ↔ q) : (if p then a else b) = if q then a else b := by
  by_cases hp : p
  · rw [if_pos hp, if_pos (h.mp hp)]
  · rw [if_neg hp, if_neg fun hq => hp (h.mpr hq)]
theorem pkR {i : Nat} {m : Nat} {y : Int} {a : Addr} (hm : (m : Int) % 4096 = y % 4096) (hi : i ≠ 0) (j : Nat) (hj : j ≤ 11) : pick i (m : Int) [(a, ((2 ^ j : Nat) : Int), ⟨#[114]⟩)] = sR (bit y ((2 ^ j : Nat) : Int)) := by
  rw [one_pick hi]
  exact ite_iff (hit_one hm hi j hj)
theorem pkW {i : Nat} {m : Nat} {y : Int} {a : Addr} (hm : (m : Int) % 4096 = y % 4096) (hi : i ≠ 0) (j : Nat) (hj : j ≤ 11) : pick i (m : Int) [(a, ((2 ^ j : Nat) : Int), ⟨#[119]⟩)] = sW (bit y ((2 ^ j : Nat) : Int)) := by
  rw [one_pick hi]
  exact ite_iff (hit_one hm hi j hj)
theorem pk3 {i : Nat} {m : Nat} {y : Int} {a1 a2 a3 : Addr} {c1 c2 c3 : Str} (hm : (m : Int) % 4096 = y % 4096) (hi : i ≠ 0) (j k : Nat) (hjk : j ≠ k) (hj : j ≤ 11) (hk : k ≤ 11) :
    pick i (m : Int) [(a1, ((2 ^ j ||| 2 ^ k : Nat) : Int), c1), (a2, ((2 ^ j : Nat) : Int), c2), (a3, ((2 ^ k : Nat) : Int), c3)] = if bit y ((2 ^ j : Nat) : Int) = 1 ∧ bit y ((2 ^ k : Nat) : Int) = 1 then c1 else if bit y ((2 ^ j : Nat) : Int) = 1 then c2 else if bit y ((2 ^ k : Nat) : Int) = 1 then c3 else ⟨#[45]⟩ := by
  rw [three_pick hi, ite_iff (hit_two hm hi j k hjk hj hk), ite_iff (a := c2) (hit_one hm hi j hj), ite_iff (a := c3) (hit_one hm hi k hk)]
theorem pk0 {m : Nat} {k : Int} (hlt : m < 65536) (h : m / 4096 = if k = 1 then 4 else 8) : pick 0 (m : Int) (tbl 0) = sD k := by
  have hb : ∀ b : Int, hitB 0 (m : Int) b ↔ (((m / 4096 * 4096 : Nat) : Int) = b) := fun b => by
    unfold hitB
    rw [if_pos rfl, decide_eq_true_iff, show (61440 : Int) = ((61440 : Nat) : Int) from rfl, and_nat, high_and m hlt]
  unfold tbl sD
  by_cases hk : k = 1
  · rw [if_pos hk] at h
    rw [if_pos hk]
    rw [h] at hb
    simp only [pick, ite_iff (hb _)]
    decide +kernel
  · rw [if_neg hk] at h
    rw [if_neg hk]
    rw [h] at hb
    simp only [pick, ite_iff (hb _)]
    decide +kernel
theorem mode_law (x : Int) : modeT (modeI x) = signsT x := by
  obtain ⟨m, hm, hlt, hk, hy⟩ := modeI_nat x
  refine str_ext ?_
  rw [signs_tl, hm]
  have hj : tl (modeT (m : Int)) = flatP [pick 0 m (tbl 0), pick 1 m (tbl 1), pick 2 m (tbl 2), pick 3 m (tbl 3), pick 4 m (tbl 4), pick 5 m (tbl 5), pick 6 m (tbl 6), pick 7 m (tbl 7), pick 8 m (tbl 8), pick 9 m (tbl 9)] := join_flat _
  rw [hj]
  refine congrArg flatP ?_
  unfold signsL
  have e0 := pk0 (k := x % 2) hlt hk
  have e1 : pick 1 (m : Int) (tbl 1) = sR (bit (x / 2) 256) := pkR hy (by decide) 8 (by decide)
  have e2 : pick 2 (m : Int) (tbl 2) = sW (bit (x / 2) 128) := pkW hy (by decide) 7 (by decide)
  have e3 : pick 3 (m : Int) (tbl 3) = sX (bit (x / 2) 2048) (bit (x / 2) 64) := pk3 hy (by decide) 11 6 (by decide) (by decide) (by decide)
  have e4 : pick 4 (m : Int) (tbl 4) = sR (bit (x / 2) 32) := pkR hy (by decide) 5 (by decide)
  have e5 : pick 5 (m : Int) (tbl 5) = sW (bit (x / 2) 16) := pkW hy (by decide) 4 (by decide)
  have e6 : pick 6 (m : Int) (tbl 6) = sX (bit (x / 2) 1024) (bit (x / 2) 8) := pk3 hy (by decide) 10 3 (by decide) (by decide) (by decide)
  have e7 : pick 7 (m : Int) (tbl 7) = sR (bit (x / 2) 4) := pkR hy (by decide) 2 (by decide)
  have e8 : pick 8 (m : Int) (tbl 8) = sW (bit (x / 2) 2) := pkW hy (by decide) 1 (by decide)
  have e9 : pick 9 (m : Int) (tbl 9) = sT (bit (x / 2) 512) (bit (x / 2) 1) := pk3 hy (by decide) 9 0 (by decide) (by decide) (by decide)
  rw [e0, e1, e2, e3, e4, e5, e6, e7, e8, e9]
end Mine
end
-- part PlR
namespace Mine
theorem calm_PlR (M : PySem.Model) (A : PySem.Around) (e : PySem.Env) (Q : PySem.Flow → PySem.Shared → Prop) (E : PySem.Value → PySem.Shared → Prop) (s : PySem.Shared) (h : PySem.wpAny M A (PySem.execs [] e) Q E s) : PySem.wpAny M A (PySem.execs [] e) Q E s := by
  w_top off
  first | (walk1; fail) | exact h
end Mine
section
open PySem PySem.W PyProof.Rows PySem.Spec PySem.Calls
set_option linter.unusedVariables false
set_option linter.unusedSimpArgs false
set_option maxRecDepth 100000
namespace Mine
noncomputable def nm (e : Int) : Nat := if e = 0 then 46 else if e = 1 then 97 else if e = 2 then 45 else 32
noncomputable def cR (e : Int) : Nat := if e = 1 then 114 else 45
noncomputable def cW (e : Int) : Nat := if e = 1 then 119 else 45
noncomputable def cX (a e : Int) : Nat := if a = 1 ∧ e = 1 then 115 else if a = 1 then 83 else if e = 1 then 120 else 45
noncomputable def cT (a e : Int) : Nat := if a = 1 ∧ e = 1 then 116 else if a = 1 then 84 else if e = 1 then 120 else 45
noncomputable def cD (e : Int) : Nat := if e = 1 then 100 else 45
theorem tR (e : Int) : (sR e).cps.toList = [cR e] := by unfold sR cR; split <;> rfl
theorem tW (e : Int) : (sW e).cps.toList = [cW e] := by unfold sW cW; split <;> rfl
theorem tD (e : Int) : (sD e).cps.toList = [cD e] := by unfold sD cD; split <;> rfl
theorem tX (a e : Int) : (sX a e).cps.toList = [cX a e] := by
  unfold sX cX
  split
  · rfl
  split
  · rfl
  split <;> rfl
theorem tT (a e : Int) : (sT a e).cps.toList = [cT a e] := by
  unfold sT cT
  split
  · rfl
  split
  · rfl
  split <;> rfl
noncomputable def sgn (k y : Int) : List Nat := [cD k, cR (bit y 256), cW (bit y 128), cX (bit y 2048) (bit y 64), cR (bit y 32), cW (bit y 16), cX (bit y 1024) (bit y 8), cR (bit y 4), cW (bit y 2), cT (bit y 512) (bit y 1)]
theorem tl_signs (x : Int) : tl (signsT x) = sgn (x % 2) (x / 2) := by
  rw [signs_tl]
  unfold signsL flatP sgn
  simp only [List.flatMap_cons, List.flatMap_nil, tR, tW, tD, tX, tT, List.append_nil, List.cons_append, List.nil_append]
theorem itN {e : Int} (h : e = 0 ∨ e = 1 ∨ e = 2 ∨ e = 3) : tl (Txt.item (Str.ofString ".a- ") e) = [nm e] := by
  rcases h with rfl | rfl | rfl | rfl <;> decide +kernel
theorem tl_name (x : Int) : tl (nameT x) = [nm (x / 8192 % 4), nm (x / 32768 % 4), 32] := by
  unfold nameT
  rw [PyProof.Rows.fmod_eq _ (b := 4) (by decide), PyProof.Rows.fmod_eq _ (b := 4) (by decide), PyProof.Rows.fdiv_eq _ (b := 8192) (by decide), PyProof.Rows.fdiv_eq _ (b := 32768) (by decide), tl_app, tl_app, itN (by omega), itN (by omega)]
  have : tl (Str.ofString " ") = [32] := by decide +kernel
  rw [this]
  rfl
theorem tl_row (x : Int) : tl (rowT x) = nm (x / 8192 % 4) :: nm (x / 32768 % 4) :: 32 :: sgn (x % 2) (x / 2) := by
  unfold rowT
  rw [tl_app, tl_name, tl_signs]
  rfl
noncomputable def alpha : List Nat := [46, 97, 45, 32, 100, 114, 119, 120, 115, 83, 116, 84]
theorem a_nm (e : Int) : nm e ∈ alpha := by
  unfold nm
  split
  · decide
  split
  · decide
  split <;> decide
theorem a_R (e : Int) : cR e ∈ alpha := by unfold cR; split <;> decide
theorem a_W (e : Int) : cW e ∈ alpha := by unfold cW; split <;> decide
theorem a_D (e : Int) : cD e ∈ alpha := by unfold cD; split <;> decide
theorem a_X (a e : Int) : cX a e ∈ alpha := by
  unfold cX
  split
  · decide
  split
  · decide
  split <;> decide
theorem a_T (a e : Int) : cT a e ∈ alpha := by
  unfold cT
  split
  · decide
  split
  · decide
  split <;> decide
theorem row_alpha (x : Int) : ∀ c ∈ tl (rowT x), c ∈ alpha := by
  intro c hc
  rw [tl_row] at hc
  unfold sgn at hc
  simp only [List.mem_cons, List.not_mem_nil, or_false] at hc
  rcases hc with rfl | rfl | rfl | rfl | rfl | rfl | rfl | rfl | rfl | rfl | rfl | rfl | rfl
  · exact a_nm _
  · exact a_nm _
  · decide
  · exact a_D _
  · exact a_R _
  · exact a_W _
  · exact a_X _ _
  · exact a_R _
  · exact a_W _
  · exact a_X _ _
  · exact a_R _
  · exact a_W _
  · exact a_T _ _
theorem alpha_ok : ∀ c ∈ alpha, c < 1114112 ∧ ¬ isEnd c := by decide
theorem strOk_of {y : Str} (h : ∀ c ∈ tl y, c < 1114112) : PyData.strOk y = true := by
  show y.cps.all (· < 0x110000) = true
  rw [← Array.all_toList]
  exact List.all_eq_true.mpr fun c hc => decide_eq_true (h c hc)
theorem rows_ok (nums : List Int) : OkS (nums.map rowT) := by
  intro y hy
  obtain ⟨x, _, rfl⟩ := List.mem_map.mp hy
  exact strOk_of fun c hc => (alpha_ok c (row_alpha x c hc)).1
theorem row_row_ok (x : Int) : Row.ok (tl (rowT x)) := by
  refine ⟨by rw [tl_row]; exact List.cons_ne_nil _ _, fun c hc => (alpha_ok c (row_alpha x c hc)).2⟩
noncomputable def seps : List Str := [Str.ofString "\n", Str.ofString "\r", Str.ofString "\r\n"]
noncomputable def sepT (x : Int) : Str := seps.getD ((x.fdiv 131072).fmod 3).toNat Str.empty
noncomputable def sepL : List Sep := [.lf, .cr, .crlf]
noncomputable def sepS (x : Int) : Sep := sepL.getD ((x.fdiv 131072).fmod 3).toNat .lf
theorem sep_signs (x : Int) : tl (sepT x) = (sepS x).signs := by
  unfold sepT sepS
  rw [PyProof.Rows.fmod_eq _ (by decide)]
  have : (x.fdiv 131072 % 3).toNat = 0 ∨ (x.fdiv 131072 % 3).toNat = 1 ∨ (x.fdiv 131072 % 3).toNat = 2 := by omega
  rcases this with h | h | h <;> rw [h] <;> decide +kernel
theorem sep_len (x : Int) : (sepT x).length ≤ 2 := by
  have : (sepT x).length = (tl (sepT x)).length := rfl
  rw [this, sep_signs]
  cases sepS x <;> decide
noncomputable def rsOf (nums : List Int) : List (Row × Sep) := nums.map fun x => (tl (rowT x), sepS x)
theorem empty_str : Str.ofString "" = ⟨#[]⟩ := by decide +kernel
theorem join_tl (ys : List Str) : tl (Txt.join (Str.ofString "") ys) = ys.flatMap tl := by
  have h := join_flat ys
  unfold flatP at h
  unfold tl
  rw [empty_str]
  exact h
theorem listing_tl (nums : List Int) : tl (Txt.join (Str.ofString "") (nums.map fun x => rowT x ++ sepT x)) = flat2 (rsOf nums) := by
  rw [join_tl]
  unfold flat2 rsOf
  rw [List.flatMap_map, List.flatMap_map]
  congr 1
  funext x
  rw [tl_app, sep_signs]
theorem rs_ok (nums : List Int) : ∀ q ∈ rsOf nums, Row.ok q.1 := by
  intro q hq
  obtain ⟨x, _, hx⟩ := List.mem_map.mp hq
  have e : q.1 = tl (rowT x) := by rw [← hx]
  rw [e]
  exact row_row_ok x
theorem tl_len (x : Str) : (tl x).length = x.length := rfl
theorem sum_le {nums : List Int} {f : Int → Str} {b : Nat} (h : ∀ x, (f x).length ≤ b) : ((nums.map f).map (·.length)).sum ≤ nums.length * b := by
  induction nums with
  | nil => simp
  | cons a r ih =>
    simp only [List.map_cons, List.sum_cons, List.length_cons]
    have := h a
    rw [Nat.add_mul]
    omega
theorem rowT_len (x : Int) : (rowT x).length = 13 := by
  unfold rowT
  rw [PySem.strLen_append, nameT_len, signsT_len]
theorem item1_len (x : Int) : (rowT x ++ sepT x).length ≤ 15 := by
  have := sep_len x
  rw [PySem.strLen_append, rowT_len]; omega
theorem listing_len {nums : List Int} (h : nums.length ≤ 17) : (flat2 (rsOf nums)).length ≤ 10000 := by
  rw [← listing_tl, join_tl, List.length_flatMap]
  have h1 := sum_le (nums := nums) item1_len
  have h2 : (List.map (fun a => (tl a).length) (nums.map fun x => rowT x ++ sepT x)).sum = ((nums.map fun x => rowT x ++ sepT x).map (·.length)).sum := rfl
  rw [h2]
  have : nums.length * 15 ≤ 17 * 15 := Nat.mul_le_mul_right 15 h
  omega
noncomputable def dotT (y : Str) : Str := if y.cps[0]? = some 46 then Str.ofString "." ++ y else y
theorem dot_tl (y : Str) : tl (dotT y) = dots (tl y) := by
  unfold dotT dots
  have e : (tl y).head? = y.cps[0]? := by
    unfold tl
    rw [List.head?_eq_getElem?]
    simp
  rw [e]
  split
  · rw [tl_app]
    have : tl (Str.ofString ".") = [46] := by decide +kernel
    rw [this]
    rfl
  · rfl
theorem crlf_tl : tl (Str.ofString "\r\n") = crlf := by decide +kernel
theorem sent_tl (nums : List Int) : flatC ((rsOf nums).map fun q => dots q.1) = tl (Txt.join (Str.ofString "") ((nums.map rowT).map fun y => dotT y ++ Str.ofString "\r\n")) := by
  rw [join_tl]
  induction nums with
  | nil => rfl
  | cons a r ih =>
    have e1 : flatC ((rsOf (a :: r)).map fun q => dots q.1) = (dots (tl (rowT a)) ++ crlf) ++ flatC ((rsOf r).map fun q => dots q.1) := by
      simp only [rsOf, List.map_cons, flatC, List.flatMap_cons]
    rw [e1, ih, List.map_cons, List.map_cons, List.flatMap_cons, tl_app, dot_tl, crlf_tl]
theorem dotT_len (y : Str) : (dotT y).length ≤ y.length + 1 := by
  unfold dotT
  split
  · rw [PySem.strLen_append]
    have : (Str.ofString ".").length = 1 := by decide +kernel
    omega
  · omega
end Mine
end
-- part PlS
namespace Mine
theorem calm_PlS (M : PySem.Model) (A : PySem.Around) (e : PySem.Env) (Q : PySem.Flow → PySem.Shared → Prop) (E : PySem.Value → PySem.Shared → Prop) (s : PySem.Shared) (h : PySem.wpAny M A (PySem.execs [] e) Q E s) : PySem.wpAny M A (PySem.execs [] e) Q E s := by
  w_top off
  first | (walk1; fail) | exact h
end Mine
section
open PySem PySem.W PyProof.Rows PySem.Spec PySem.Calls
open PySem.StrLaws PySem.Builtin PySem.Builtin.Str
set_option linter.unusedVariables false
set_option linter.unusedSimpArgs false
set_option maxRecDepth 100000
namespace Mine
noncomputable def cr2 : Str := Str.ofString "\r\n"
theorem cr2_tl : cr2.cps.toList = [13, 10] := by decide +kernel
theorem cr2_len : cr2.length = 2 := by decide +kernel
theorem at_cr {x : Str} {i : Nat} : At x cr2 x.length i ↔ (tl x)[i]? = some 13 ∧ (tl x)[i + 1]? = some 10 := by
  unfold At
  rw [subAt_eq, cr2_len, cr2_tl]
  have hl : x.length = (tl x).length := rfl
  show i + 2 ≤ x.length ∧ ((tl x).drop i |>.take 2) == [13, 10] ↔ _
  rw [hl]
  generalize tl x = T
  constructor
  · rintro ⟨h1, h2⟩
    have h3 := eq_of_beq h2
    have e0 : ((T.drop i).take 2)[0]? = some 13 := by rw [h3]; rfl
    have e1 : ((T.drop i).take 2)[1]? = some 10 := by rw [h3]; rfl
    rw [List.getElem?_take_of_lt (by decide), List.getElem?_drop] at e0 e1
    exact ⟨e0, e1⟩
  · rintro ⟨h1, h2⟩
    have hlt := (List.getElem?_eq_some_iff.mp h2).1
    refine ⟨by omega, ?_⟩
    have : (T.drop i).take 2 = [13, 10] := by
      apply List.ext_getElem?
      intro k
      match k with
      | 0 => rw [List.getElem?_take_of_lt (by decide), List.getElem?_drop]; exact h1
      | 1 => rw [List.getElem?_take_of_lt (by decide), List.getElem?_drop]; exact h2
      | k + 2 =>
        have h3 : ((T.drop i).take 2).length ≤ k + 2 := by
          rw [List.length_take]; omega
        rw [List.getElem?_eq_none_iff.mpr h3]
        rfl
    rw [this]
    rfl
theorem get_pre {pre l : List Nat} {k : Nat} : (pre ++ l)[pre.length + k]? = l[k]? := by
  rw [List.getElem?_append_right (Nat.le_add_right _ _)]
  congr 1
  omega
theorem parts_rows (x : Str) : ∀ (rs : List Row) (pre : List Nat) (cuts : List Nat) (f : Nat), tl x = pre ++ flatC rs → (∀ r ∈ rs, 13 ∉ r) → ChainG x cr2 x.length pre.length cuts f → (∀ k, f ≤ k → ¬ At x cr2 x.length k) →
    partsFrom x 2 pre.length cuts = rs.map (fun r => (⟨r.toArray⟩ : Str)) ++ [⟨#[]⟩]
  | [], pre, cuts, f, hx, hr, hc, hf => by
    have hxl : x.length = pre.length := by
      show (tl x).length = _
      rw [hx]; simp [flatC]
    cases cuts with
    | nil =>
      show [strSub x pre.length x.length] = [⟨#[]⟩]
      rw [hxl]
      congr 1
      apply str_ext
      show (strSub x pre.length pre.length).cps.toList = []
      rw [strSub_toList, Nat.sub_self, List.take_zero]
    | cons c r =>
      have h1 := hc.1
      have h2 := hc.2.1.1
      rw [cr2_len] at h2
      omega
  | r :: rs, pre, cuts, f, hx, hr, hc, hf => by
    have hx2 : tl x = pre ++ (r ++ (13 :: 10 :: flatC rs)) := by
      rw [hx]
      show pre ++ ((r ++ crlf) ++ flatC rs) = _
      rw [List.append_assoc]
      rfl
    have hat : At x cr2 x.length (pre.length + r.length) := by
      refine at_cr.mpr ⟨?_, ?_⟩
      · rw [hx2, get_pre, List.getElem?_append_right (Nat.le_refl _), Nat.sub_self]; rfl
      · rw [hx2, Nat.add_assoc, get_pre, List.getElem?_append_right (Nat.le_add_right _ _), Nat.add_sub_cancel_left]; rfl
    have hno : ∀ k, pre.length ≤ k → k < pre.length + r.length → ¬ At x cr2 x.length k := by
      intro k h1 h2 hA
      have h3 := (at_cr.mp hA).1
      obtain ⟨j, rfl⟩ : ∃ j, k = pre.length + j := ⟨k - pre.length, by omega⟩
      rw [hx2, get_pre, List.getElem?_append_left (by omega)] at h3
      exact hr r (List.mem_cons_self ..) (List.mem_of_getElem? h3)
    cases cuts with
    | nil =>
      have e : f = pre.length := hc
      exact absurd hat (hf _ (by omega))
    | cons c cs =>
      obtain ⟨h1, h2, h3, h4⟩ := hc
      have ec : c = pre.length + r.length := by
        rcases Nat.lt_trichotomy c (pre.length + r.length) with h | h | h
        · exact absurd h2 (hno c h1 h)
        · exact h
        · exact absurd hat (h3 _ (Nat.le_add_right _ _) h)
      subst ec
      have hx3 : tl x = (pre ++ r ++ crlf) ++ flatC rs := by
        rw [hx2]
        simp [crlf]
      have hl3 : (pre ++ r ++ crlf).length = pre.length + r.length + 2 := by simp [crlf]; omega
      rw [cr2_len, ← hl3] at h4
      have ih := parts_rows x rs (pre ++ r ++ crlf) cs f hx3 (fun q hq => hr q (List.mem_cons_of_mem _ hq)) h4 hf
      show strSub x pre.length (pre.length + r.length) :: partsFrom x 2 (pre.length + r.length + 2) cs = _
      rw [← hl3, ih]
      have e2 : strSub x pre.length (pre.length + r.length) = ⟨r.toArray⟩ := by
        apply str_ext
        show (strSub x pre.length (pre.length + r.length)).cps.toList = r.toArray.toList
        rw [strSub_toList, Nat.add_sub_cancel_left]
        show ((tl x).drop pre.length).take r.length = _
        rw [hx2, List.drop_left, List.take_left]
      rw [e2]
      rfl
theorem split_rows (x : Str) (rs : List Row) (hx : tl x = flatC rs) (hr : ∀ r ∈ rs, 13 ∉ r) (hk : ¬ strKind x < strKind cr2) (hn : rs ≠ []) : Txt.split x cr2 = rs.map (fun r => (⟨r.toArray⟩ : Str)) ++ [⟨#[]⟩] := by
  obtain ⟨f, hc, hf⟩ := occ_tight x cr2 (by rw [cr2_len]; decide)
  have hp := parts_rows x rs [] _ f (by rw [hx]; rfl) hr hc hf
  have hlen : ¬ x.length < cr2.length := by
    rw [cr2_len]
    have : x.length = (tl x).length := rfl
    rw [this, hx]
    cases rs with
    | nil => exact absurd rfl hn
    | cons r rs => simp [flatC, crlf]; omega
  unfold Txt.split
  rw [if_neg (by simp [hlen, hk])]
  split
  · rename_i he
    have e0 : occurrences x cr2 0 x.length (x.length + 1) = [] := List.isEmpty_iff.mp he
    rw [e0] at hp
    rw [← hp]
    show [x] = [strSub x 0 x.length]
    rw [sub_whole]
  · rw [partsBetween_eq, cr2_len]
    exact hp
end Mine
end
-- part LoopR
namespace Mine
theorem calm_LoopR (M : PySem.Model) (A : PySem.Around) (e : PySem.Env) (Q : PySem.Flow → PySem.Shared → Prop) (E : PySem.Value → PySem.Shared → Prop) (s : PySem.Shared) (h : PySem.wpAny M A (PySem.execs [] e) Q E s) : PySem.wpAny M A (PySem.execs [] e) Q E s := by
  w_top off
  first | (walk1; fail) | exact h
end Mine
section
open PySem PySem.W PyProof.Rows PySem.Spec PySem.Calls PyProof.V
set_option linter.unusedVariables false
set_option maxRecDepth 100000
namespace Mine
section
variable {prog : Program} {w : World} {A : Around} {E : Value → Shared → Prop} {s : Shared} {env : Env} {h₀ : Heap} {target : Expr} {body orelse : List Stmt} {Q : Flow → Shared → Prop}
theorem StepG.of_false {L : Addr} {its : List (Addr × Obj)} {J : (Str → Option Value) → List (Addr × Obj) → Array GenState → Prop} {s₁ s₂ : Shared} : ∀ {f : Flow}, StepG h₀ L its J s₁ (fun _ _ => False) f s₂ → StepG h₀ L its J s₁ Q f s₂
  | .ret _, h => h.elim
  | .brk, h => h.elim
  | .cont, h => h
  | .next, h => h
theorem letGo_rangeiter {target : Expr} {I : Addr} {x left step : Int} {v : Value} {Q' : Unit → Shared → Prop} {s' : Shared} (hit : IsRangeIter s'.heap I x left step) (h : Q' () s') :
    wpAny (model prog w) A (letOwnedTupleGo target (.ref I) v) Q' E s' := by
  unfold letOwnedTupleGo
  have r : ∀ a, wpAny (model prog w) A (letOwnedTupleGo (.Tuple [] 0 default) (.ref I) (.ref a)) Q' E s' := fun a => by
    refine wpAny_bind (wpAny_load (o := { cls := .type "range_iterator", data := .fields #[rawInt x, rawInt left, rawInt step] }) hit ?_)
    exact wpAny_pure h
  split
  · rcases v with _ | _ | _ | _ | _ | _ | a
    all_goals first | exact wpAny_pure h | exact r _
  · rcases v with _ | _ | _ | _ | _ | _ | a
    all_goals first | exact wpAny_pure h | exact r _
  · exact wpAny_pure h
noncomputable def rangeRunsF {hp : Heap} {m : Str → Option Value} {a : Int} {n : Nat} (hh : A.handled = none) (F : Fr h₀ env.locals hp m) :
    RunsF prog w A h₀ env.locals target hp.objs.size [hp.objs.size] [] n (fun i v _ => ∃ t, v = .int (a + (i : Int)) t) (hp.push { cls := .type "range_iterator", data := .fields #[rawInt a, rawInt (n : Int), rawInt 1] }) where
  fp := [hp.objs.size]
  wr := [hp.objs.size]
  Md := fun i v h => (∃ t, v = .int (a + (i : Int)) t) ∧ IsRangeIter h hp.objs.size (a + ((i + 1 : Nat) : Int) * 1) ((n : Int) - ((i + 1 : Nat) : Int)) 1
  St := fun i h => IsRangeIter h hp.objs.size (a + (i : Nat) * 1) ((n : Int) - (i : Nat)) 1
  W := KTurns.ofWalks (LCg.range_walks hh a n) fun i v s Q E st q => letGo_rangeiter st q
  hws := fun b hb => by
    rw [List.mem_singleton.mp hb]
    exact ⟨(ktu_new F (Nat.le_refl _)), Nat.ne_of_gt F.ns.lt⟩
  hwr := fun b hb => hb
  hfp := fun b hb => .inl hb
  hlive := fun i h st b hb => by
    have ho : h.get? hp.objs.size = some _ := st
    rw [List.mem_singleton.mp hb]
    exact ⟨_, ho⟩
  hst := by
    have h : (hp.push { cls := .type "range_iterator", data := .fields #[rawInt a, rawInt (n : Int), rawInt 1] }).get? hp.objs.size = some { cls := .type "range_iterator", data := .fields #[rawInt a, rawInt (n : Int), rawInt 1] } := Heap.get?_push_size _ rfl
    show IsRangeIter _ _ _ _ _
    unfold IsRangeIter
    simpa using h
noncomputable def LJ (H Dd Rw Nu cK cT : Addr) (oH oD oR oN : Obj) (T : Array Value → Prop) (m : Str → Option Value) (news : List (Addr × Obj)) (g : Array GenState) : Prop :=
  (m (Str.ofString "heard") = some (.ref H) ∧ m (Str.ofString "dotted") = some (.ref Dd) ∧ m (Str.ofString "rows") = some (.ref Rw) ∧ m (Str.ofString "numbers") = some (.ref Nu)) ∧ AllBare g ∧
  ∃ oK vK tb, news = [(H, oH), (Dd, oD), (Rw, oR), (Nu, oN), (cK, oK), (cT, tabObj tb)] ∧ oK.data = Data.cell vK ∧ T tb
theorem law_loop {r H Dd Rw Nu cK cT : Addr} {oH oD oR oN oK : Obj} {vK : Option Value} {tb : Array Value} {T : Array Value → Prop} {n : Nat} {b : Int} {t u v : Tok} {m : Str → Option Value}
    (hh : A.handled = none) (hr : IsRange s.heap r 0 b 1 t u v) (hbn : b = (n : Int)) (hn : n ≤ 1000) (F : Fr h₀ env.locals s.heap m) (N : News h₀ env.locals s.heap [(H, oH), (Dd, oD), (Rw, oR), (Nu, oN), (cK, oK), (cT, tabObj tb)])
    (hK : oK.data = Data.cell vK) (hT : T tb) (hb : AllBare s.gens) (e1 : m (Str.ofString "heard") = some (.ref H)) (e2 : m (Str.ofString "dotted") = some (.ref Dd)) (e3 : m (Str.ofString "rows") = some (.ref Rw)) (e4 : m (Str.ofString "numbers") = some (.ref Nu))
    (step : ∀ (k : Nat) t oK vK tb h₁ tk₁ g₁ m₁ Ia oI, k < n → oK.data = Data.cell vK → T tb → AllBare g₁ → m₁ (Str.ofString "heard") = some (.ref H) → m₁ (Str.ofString "dotted") = some (.ref Dd) → m₁ (Str.ofString "rows") = some (.ref Rw) → m₁ (Str.ofString "numbers") = some (.ref Nu) →
      OffA Ia [H, Dd, Rw, Nu, cK, cT] → Fr h₀ env.locals h₁ m₁ → News h₀ env.locals h₁ [(Ia, oI), (H, oH), (Dd, oD), (Rw, oR), (Nu, oN), (cK, oK), (cT, tabObj tb)] →
      wpAny (model prog w) A (assign target env (.int (k : Int) t)) (fun _ s₃ => wpAny (model prog w) A (execs body env) (StepG h₀ env.locals [(Ia, oI)] (LJ H Dd Rw Nu cK cT oH oD oR oN T) { s with heap := h₁, gens := g₁, toks := tk₁ } fun _ _ => False) E s₃) E { s with heap := h₁, gens := g₁, toks := tk₁ })
    (helse : ∀ h' tk g' m' oK tb, T tb → AllBare g' → m' (Str.ofString "heard") = some (.ref H) → m' (Str.ofString "dotted") = some (.ref Dd) → m' (Str.ofString "rows") = some (.ref Rw) → m' (Str.ofString "numbers") = some (.ref Nu) →
      Fr h₀ env.locals h' m' → News h₀ env.locals h' [(H, oH), (Dd, oD), (Rw, oR), (Nu, oN), (cK, oK), (cT, tabObj tb)] → wpAny (model prog w) A (execs orelse env) Q E { s with heap := h', gens := g', toks := tk }) :
    wpAny (model prog w) A (pyIter (.ref r)) (fun it s₂ => TurnsG prog w A h₀ env target body orelse Q E it s₂) E s := by
  subst hbn
  refine wpAny_pyIter_range hr (small_one (by omega) (by omega) (by omega) (by omega)) ?_
  have hsz : Builtin.Range.rangeSize 0 (n : Int) 1 = (n : Int) := by rw [rangeSize_nat]; omega
  rw [hsz]
  refine ⟨_, [s.heap.objs.size], [], n, _, m, _, rangeRunsF (a := 0) hh F, fun _ => LJ H Dd Rw Nu cK cT oH oD oR oN T, rfl, not_in_size N fun b hb => Nat.le_of_eq (List.mem_singleton.mp hb).symm, F.push _, N.pushKeep _, (by intro i m news g h q hq; cases hq),
    ⟨⟨e1, e2, e3, e4⟩, hb, oK, vK, tb, rfl, hK, hT⟩, ?_, ?_⟩
  · rintro i v m₁ news₁ h₁ tk₁ g₁ its hi ⟨t, rfl⟩ ⟨⟨e1, e2, e3, e4⟩, hb, oK, vK, tb, rfl, hK, hT⟩ him hno F₁ N₁
    have hil : its.length = 1 := by rw [← List.length_map (f := fun x : Addr × Obj => x.1), him]; rfl
    obtain ⟨Ia, oI, rfl⟩ := one_its hil
    have hIa : [Ia] = [s.heap.objs.size] := him
    have hz : (0 : Int) + (i : Int) = (i : Int) := by omega
    rw [hz]
    refine wpAny_mono (step i t oK vK tb h₁ tk₁ g₁ m₁ Ia oI hi hK hT hb e1 e2 e3 e4 (OffA.map (l := [(H, oH), (Dd, oD), (Rw, oR), (Nu, oN), (cK, oK), (cT, tabObj tb)]) fun q hm e => hno q hm (by rw [← hIa]; exact List.mem_singleton.mpr e)) F₁ N₁) (fun _ _ h => wpAny_mono h (fun _ _ h => StepG.of_false h) fun _ _ e => e) fun _ _ e => e
  · rintro h' tk m' news' g' F' N' _ ⟨⟨e1, e2, e3, e4⟩, hb, oK, vK, tb, rfl, hK, hT⟩
    exact helse h' tk g' m' oK tb hT hb e1 e2 e3 e4 F' N'
theorem LJ.end {L H Dd Rw Nu cK cT Ia : Addr} {oI oH oD oR oN oK : Obj} {vK : Option Value} {tb : Array Value} {T : Array Value → Prop} {m' : Str → Option Value} {s₁ : Shared} {h' : Heap} {tk : Nat} {g' : Array GenState} {all : List (Addr × Obj)}
    (F : Fr h₀ L h' m') (N : News h₀ L h' all) (hm : ∀ q ∈ [(Ia, oI), (H, oH), (Dd, oD), (Rw, oR), (Nu, oN), (cK, oK), (cT, tabObj tb)], q ∈ all) (hne : OffA Ia [H, Dd, Rw, Nu, cK, cT]) (hK : oK.data = Data.cell vK) (hT : T tb) (hb : AllBare g')
    (e1 : m' (Str.ofString "heard") = some (.ref H)) (e2 : m' (Str.ofString "dotted") = some (.ref Dd)) (e3 : m' (Str.ofString "rows") = some (.ref Rw)) (e4 : m' (Str.ofString "numbers") = some (.ref Nu)) :
    StepG h₀ L [(Ia, oI)] (LJ H Dd Rw Nu cK cT oH oD oR oN T) s₁ Q .next { s₁ with heap := h', gens := g', toks := tk } := by
  refine ⟨h', tk, m', [(H, oH), (Dd, oD), (Rw, oR), (Nu, oN), (cK, oK), (cT, tabObj tb)], g', rfl, F, fun q hq => N q (hm q hq), fun q hq hq' => ?_, ⟨e1, e2, e3, e4⟩, hb, oK, vK, tb, rfl, hK, hT⟩
  have e : q.1 = Ia := List.mem_singleton.mp hq'
  exact hne q.1 (keys_mem hq) e
end
end Mine
end
-- part Tk3
namespace Mine
theorem calm_Tk3 (M : PySem.Model) (A : PySem.Around) (e : PySem.Env) (Q : PySem.Flow → PySem.Shared → Prop) (E : PySem.Value → PySem.Shared → Prop) (s : PySem.Shared) (h : PySem.wpAny M A (PySem.execs [] e) Q E s) : PySem.wpAny M A (PySem.execs [] e) Q E s := by
  w_top off
  first | (walk1; fail) | exact h
end Mine
section
open PySem PySem.W PyProof.Rows PySem.Spec PySem.Calls
set_option linter.unusedVariables false
set_option maxRecDepth 100000
namespace Mine
section
variable {w : World} {p : Program} {loose : List Str} {mean : ExcName → Option Value} {mg mb : Str → Option Value}
variable {A : Around} {E : Value → Shared → Prop} {s : Shared} {h₀ : Heap} {L : Addr} {m : Str → Option Value} {news : List (Addr × Obj)}
theorem useK {all : List Tk} {P : Str} {t : Tok} {R : Addr} {rs : List Value} {xs : List Str} {k0 : Nat} {tb : Array Value} {g : Obj → List (Addr × Obj)} {Q : Value → Shared → Prop} (hP : P.cps.toList = all.flatMap Tk.signs) (hn : P.length ≤ 1000) (hstar : ∀ done ts, all = done ++ Tk.star :: ts → done = [] ∨ done = [Tk.dot])
    (X : (Mine.hd.heap_1 w.params).In h₀) (T : Top p loose mean mg mb h₀) (C : CodeHd h₀ 71 67) (F : Fr h₀ L s.heap m) (N : News h₀ L s.heap news) (U : UpdF 67 (tabObj tb) news g) (hT : TabOk tb) (hb : AllBare s.gens)
    (hR : (R, listOf rs.toArray k0) ∈ news) (hxs : StrsAre rs xs) (hlen : rs.length ≤ 16) (hx : ∀ x ∈ xs, x.length ≤ 16)
    (hA : A.handled = none) (hd : A.depth + 20 < recursionLimit) (hu : A.units + 200 < cLine)
    (h : ∀ D vs k tb' h' tk g', StrsAre vs (xs.filter (takenT all)) → TabOk tb' → AllBare g' → Fr h₀ L h' m → News h₀ L h' ((D, listOf vs.toArray k) :: g (tabObj tb')) → OffA D (keysOf news) → Q (.ref D) { s with heap := h', gens := g', toks := tk }) :
    wpAny (model PR w) A (call (.ref 145) [.str P t, .ref R]) Q E s := by
  obtain ⟨hn', dp, fr, gd, u⟩ := A
  replace hA : hn' = none := hA
  subst hA
  obtain ⟨G, hsub⟩ := ghost_of F N U
  have hne : R ≠ 67 := fun e => by
    have h1 := (N _ hR).1
    have h2 := G.tab
    rw [show ((R, listOf rs.toArray k0) : Addr × Obj).1 = 67 from e, h2] at h1
    cases h1
  have hL : (hideAll s.heap [67]).IsList R rs.toArray := ⟨_, G.sup R _ hne (N _ hR).1, rfl, _, rfl⟩
  refine wpAny_mono (t_taken w p loose mean mg mb all P hP hn hstar t dp u gd fr s _ tb E (X.keeps hsub) (T.keeps hsub) G hT (C.keeps hsub) hb R rs xs hL hxs hlen hx hd hu) (fun r s' hr => ?_) fun _ _ x => x
  obtain ⟨D, vs, k, tb', h', tk, g', rfl, hp, rfl, hT', hb', hD, hDn, hk, h67⟩ := hr
  have hDne : D ≠ 67 := fun e => by rw [e, h67] at hD; cases hD
  obtain ⟨F', N'⟩ := ghost_back F N U hk h67
  obtain ⟨N₂, hq⟩ := ghost_new F N U hDn hD hDne
  exact h D vs k tb' h' tk g' hp hT' hb' F' (fun q hq => by
    rcases List.mem_cons.mp hq with rfl | hq
    · exact N₂ _ (List.mem_singleton.mpr rfl)
    · exact N' q hq) (OffA.map hq)
end
section
variable (w : World) (p : Program) (loose : List Str) (mean : ExcName → Option Value) (mg mb : Str → Option Value)
theorem c_shown (x : Int) (k : Nat) (hk : k < 10) (t u : Tok) : PC0 w p loose mean mg mb 152 3 40 [.int x t, .int (k : Int) u] (fun r => IsB (shownB x k) r) := by
  have : k = 0 ∨ k = 1 ∨ k = 2 ∨ k = 3 ∨ k = 4 ∨ k = 5 ∨ k = 6 ∨ k = 7 ∨ k = 8 ∨ k = 9 := by omega
  rcases this with rfl | rfl | rfl | rfl | rfl | rfl | rfl | rfl | rfl | rfl
  · exact c_shown0 w p loose mean mg mb x t u
  · exact c_shown1 w p loose mean mg mb x t u
  · exact c_shown2 w p loose mean mg mb x t u
  · exact c_shown3 w p loose mean mg mb x t u
  · exact c_shown4 w p loose mean mg mb x t u
  · exact c_shown5 w p loose mean mg mb x t u
  · exact c_shown6 w p loose mean mg mb x t u
  · exact c_shown7 w p loose mean mg mb x t u
  · exact c_shown8 w p loose mean mg mb x t u
  · exact c_shown9 w p loose mean mg mb x t u
end
end Mine
end
-- part LawP
namespace Mine
theorem calm_LawP (M : PySem.Model) (A : PySem.Around) (e : PySem.Env) (Q : PySem.Flow → PySem.Shared → Prop) (E : PySem.Value → PySem.Shared → Prop) (s : PySem.Shared) (h : PySem.wpAny M A (PySem.execs [] e) Q E s) : PySem.wpAny M A (PySem.execs [] e) Q E s := by
  w_top off
  first | (walk1; fail) | exact h
end Mine
section
open PySem PySem.W PyProof.Rows PySem.Spec PySem.Calls
set_option linter.unusedVariables false
set_option linter.unusedSimpArgs false
set_option maxRecDepth 100000
set_option maxHeartbeats 1000000
namespace Mine
theorem strs_size {es : List Value} {xs : List Str} (h : StrsAre es xs) (hl : xs.length ≤ 17) : es.toArray.size ≤ sizeLine := by
  rw [List.size_toArray, h.length]
  exact Nat.le_trans hl (by decide)
theorem ints_size {es : List Value} {xs : List Int} (h : IntsAre es xs) (hl : xs.length ≤ 17) : es.toArray.size ≤ sizeLine := by
  rw [List.size_toArray, h.length]
  exact Nat.le_trans hl (by decide)
theorem row_eq {k : Int} {y z : Str} (h1 : Is (nameT k) y) (h2 : Is (signsT k) z) : y ++ z = rowT k := by
  unfold Is at h1 h2
  subst h1 h2
  rfl
theorem row_eq2 {k a : Int} {y z : Str} (h1 : Is (nameT k) y) (h2 : Is (modeT a) z) (ha : a = modeI k) : y ++ z = rowT k := by
  unfold Is at h1 h2
  subst h1 h2 ha
  rw [mode_law]
  rfl
theorem roomC {dp u : Nat} {gd : Option (List Code)} {fr : Option (List Env)} {env : Env} (h : u + 400 < cLine) : ((Ar dp u gd fr).deeper env).units + 64 < cLine := by
  show u + 3 + 64 < _
  omega
theorem drop23 {h₀ h : Heap} {L : Addr} {a b c : Addr × Obj} {r : List (Addr × Obj)} (N : News h₀ L h (a :: b :: c :: r)) : News h₀ L h (a :: r) := fun q hq => N q (by
  rcases List.mem_cons.mp hq with rfl | hq
  · exact .head _
  · exact .tail _ (.tail _ (.tail _ hq)))
theorem zlen {us ys : List Value} {nums : List Int} {f : Int → Str} (hN : IntsAre us nums) (hs : StrsAre ys (nums.map f)) : us.length = ys.length := by
  rw [hN.length, hs.length, List.length_map]
theorem zsz {us : List Value} {nums : List Int} (hN : IntsAre us nums) (h : nums.length ≤ 17) : us.length ≤ 1000 := by
  rw [hN.length]; omega
theorem zat {us ys : List Value} {nums : List Int} {f : Int → Str} {i : Nat} {va vb : Value} (hN : IntsAre us nums) (hs : StrsAre ys (nums.map f)) (h1 : us[i]? = some va) (h2 : ys[i]? = some vb) :
    ∃ x tx, va = .int x tx ∧ ∃ y ty, vb = .str y ty ∧ nums.take (i + 1) = nums.take i ++ [x] ∧ Is (f x) y := by
  obtain ⟨x, tx, e, hx⟩ := IntsAre.at hN i va h1
  obtain ⟨y, ty, e2, hy⟩ := StrsAre.item hs i vb h2
  rw [List.getElem?_map, hx] at hy
  refine ⟨x, tx, e, y, ty, e2, by rw [List.take_add_one, hx]; rfl, (Option.some.inj hy).symm⟩
theorem zdone {us : List Value} {nums : List Int} {i : Nat} {x : Int} {y z : Str} {t : Tok} (hK : StrsAre us ((nums.take i).map fun x => rowT x ++ sepT x)) (hti : nums.take (i + 1) = nums.take i ++ [x]) (hy : Is (rowT x) y) (hs : sepT x = z) :
    StrsAre (us ++ [.str (y ++ z) t]) ((nums.take (i + 1)).map fun x => rowT x ++ sepT x) := by
  unfold Is at hy
  subst hy hs
  rw [hti, List.map_append]
  exact hK.append' (.cons _ _ .nil)
theorem sep_at {x : Int} (n : Nat) (z : Str) (h : (x.fdiv 131072).fmod 3 = (n : Int)) (hz : seps.getD n Str.empty = z) : sepT x = z := by
  unfold sepT
  rw [h]
  exact hz
theorem sum_w {nums : List Int} {f : Int → Str} {b : Nat} (h : ∀ x, (f x).length ≤ b) (hb : b ≤ 1000) (hn : nums.length ≤ 17) : ((nums.map f).map (·.length)).sum + (nums.map f).length ≤ 1048576 := by
  have h1 := sum_le (nums := nums) h
  have h2 : nums.length * b ≤ 17 * 1000 := Nat.mul_le_mul hn hb
  rw [List.length_map]
  omega
noncomputable def AllLen (xs : List Str) (n : Nat) : Prop := ∀ y ∈ xs, 1 ≤ y.length ∧ y.length ≤ n
theorem rows_len (nums : List Int) : AllLen (nums.map rowT) 13 := by
  intro y hy
  obtain ⟨x, _, hx⟩ := List.mem_map.mp hy
  rw [← hx, rowT_len]
  exact ⟨by decide, by decide⟩
noncomputable def sentT (nums : List Int) : Str := Txt.join (Str.ofString "") ((nums.map rowT).map fun y => dotT y ++ Str.ofString "\r\n")
theorem sent_is {nums : List Int} {z : Str} (h : z.cps.toList = tl (Txt.join (Str.ofString "") ((nums.map rowT).map fun y => dotT y ++ Str.ofString "\r\n"))) : Is (sentT nums) z := str_ext h
theorem item0 {y : Str} (h : 1 ≤ y.length) : y.cps[0]? = some (y.cps.getD 0 0) ∧ Txt.item y 0 = ⟨#[y.cps.getD 0 0]⟩ := by
  have h2 : 0 < y.cps.size := h
  have e : y.cps[0]? = some (y.cps.getD 0 0) := by
    rw [Array.getElem?_eq_getElem h2, Array.getD_eq_getD_getElem?, Array.getElem?_eq_getElem h2]
    rfl
  refine ⟨e, ?_⟩
  unfold Txt.item Txt.charAt
  have hs : seqIndex? 0 y.length = some 0 := by
    unfold seqIndex?
    simp
    omega
  rw [hs]
  show (⟨#[(y.cps[0]?).getD 0]⟩ : Str) = _
  rw [e]
  rfl
theorem dot_str : Str.ofString "." = ⟨#[46]⟩ := by decide +kernel
theorem dot_iff {y : Str} (h : 1 ≤ y.length) : (Txt.item y 0 == Str.ofString ".") = decide (y.cps[0]? = some 46) := by
  rw [(item0 h).1, (item0 h).2, dot_str]
  by_cases hc : y.cps.getD 0 0 = 46
  · rw [hc]; simp
  · have : ¬ ((⟨#[y.cps.getD 0 0]⟩ : Str) = ⟨#[46]⟩) := fun e => hc (by injection e with e; simpa using e)
    rw [beq_eq_false_iff_ne.mpr this]
    exact (decide_eq_false fun e => hc (Option.some.inj e)).symm
theorem dot_yes {y : Str} (h : 1 ≤ y.length) (e : (Txt.item y 0 == Str.ofString ".") = true) : Str.ofString "." ++ y = dotT y := by
  rw [dot_iff h] at e
  unfold dotT
  rw [if_pos (of_decide_eq_true e)]
theorem dot_no {y : Str} (h : 1 ≤ y.length) (e : (Txt.item y 0 == Str.ofString ".") = false) : y = dotT y := by
  rw [dot_iff h] at e
  unfold dotT
  rw [if_neg (of_decide_eq_false e)]
theorem ne_str_same {prog : Program} {w : World} {A : Around} {E : Value → Shared → Prop} {s : Shared} {x : Str} {t u : Tok} {Q : Value → Shared → Prop} (h : Q (.bool false) s) : wpAny (model prog w) A (compareOp .NotEq (.str x t) (.str x u)) Q E s :=
  ne_str (by rw [bne_self_eq_false]; exact h)
theorem dots_len (nums : List Int) : AllLen ((nums.map rowT).map dotT) 14 := by
  intro y hy
  obtain ⟨z, hz, hx⟩ := List.mem_map.mp hy
  have h := rows_len nums z hz
  have h2 := dotT_len z
  rw [← hx]
  refine ⟨?_, by omega⟩
  unfold dotT
  split
  · rw [PySem.strLen_append]; omega
  · exact h.1
theorem sum_wS {xs : List Str} {b : Nat} (h : ∀ x ∈ xs, x.length ≤ b) (hb : b ≤ 1000) (hn : xs.length ≤ 17) : (xs.map (·.length)).sum + xs.length ≤ 1048576 := by
  have h1 : (xs.map (·.length)).sum ≤ xs.length * b := by
    clear hn
    induction xs with
    | nil => simp
    | cons a r ih =>
      simp only [List.map_cons, List.sum_cons, List.length_cons]
      have := h a (List.mem_cons_self ..)
      have := ih fun x hx => h x (List.mem_cons_of_mem _ hx)
      rw [Nat.add_mul]
      omega
  have h2 : xs.length * b ≤ 17 * 1000 := Nat.mul_le_mul hn hb
  omega
theorem dcr_len (nums : List Int) : ∀ y ∈ ((nums.map rowT).map dotT).map fun y => y ++ Str.ofString "\r\n", y.length ≤ 16 := by
  intro y hy
  obtain ⟨z, hz, hx⟩ := List.mem_map.mp hy
  have h := dots_len nums z hz
  rw [← hx, PySem.strLen_append]
  have : (Str.ofString "\r\n").length = 2 := by decide +kernel
  omega
theorem map_dots (nums : List Int) : ((nums.map rowT).map dotT).map (fun y => y ++ Str.ofString "\r\n") = (nums.map rowT).map fun y => dotT y ++ Str.ofString "\r\n" := by
  rw [List.map_map]
  rfl
theorem drop2 {h₀ h : Heap} {L : Addr} {a b : Addr × Obj} {r : List (Addr × Obj)} (N : News h₀ L h (a :: b :: r)) : News h₀ L h (a :: r) := fun q hq => N q (by
  rcases List.mem_cons.mp hq with rfl | hq
  · exact .head _
  · exact .tail _ (.tail _ hq))
theorem abs1 {h₀ h : Heap} {L : Addr} {m : Str → Option Value} (a1 : Str) (v1 : Value) (F : Fr h₀ L h m) (h1 : m a1 = some v1) : ∃ m' : Str → Option Value, Fr h₀ L h (fun y => if y = a1 then some v1 else m' y) := ⟨m, by
  have e : m = fun y => if y = a1 then some v1 else m y := by
    funext y
    split
    · rename_i h; rw [h, h1]
    · rfl
  exact e ▸ F⟩
theorem sum_lenS {xs : List Str} {b : Nat} (h : ∀ x ∈ xs, x.length ≤ b) : (xs.flatMap tl).length ≤ xs.length * b := by
  induction xs with
  | nil => simp
  | cons a r ih =>
    simp only [List.flatMap_cons, List.length_append, List.length_cons]
    have h1 := h a (List.mem_cons_self ..)
    have h2 : (tl a).length = a.length := rfl
    have h3 := ih fun x hx => h x (List.mem_cons_of_mem _ hx)
    rw [Nat.add_mul]
    omega
theorem sentT_len {nums : List Int} (hn : nums.length ≤ 17) : (sentT nums).length + 2 ≤ sizeLine := by
  have h1 : (sentT nums).length = (tl (sentT nums)).length := rfl
  have h2 := dcr_len nums
  rw [map_dots] at h2
  have h3 := sum_lenS h2
  unfold sentT at h1 ⊢
  rw [join_tl] at h1
  rw [h1]
  have h4 : ((nums.map rowT).map fun y => dotT y ++ Str.ofString "\r\n").length ≤ 17 := by rw [List.length_map, List.length_map]; exact hn
  have h5 := Nat.mul_le_mul_right 16 h4
  exact Nat.le_trans (Nat.add_le_add_right (Nat.le_trans h3 h5) 2) (by decide)
theorem dots_no13 (x : Int) : 13 ∉ dots (tl (rowT x)) := by
  have h1 : 13 ∉ tl (rowT x) := fun h => absurd (row_alpha x 13 h) (by decide)
  unfold dots
  split
  · intro h
    rcases List.mem_cons.mp h with h | h
    · cases h
    · exact h1 h
  · exact h1
theorem sentT_tl (nums : List Int) : tl (sentT nums) = flatC ((rsOf nums).map fun q => dots q.1) := by
  unfold sentT
  rw [sent_tl]
theorem rs_no13 (nums : List Int) : ∀ r ∈ (rsOf nums).map (fun q => dots q.1), 13 ∉ r := by
  intro r hr
  obtain ⟨q, hq, he⟩ := List.mem_map.mp hr
  obtain ⟨x, _, hx⟩ := List.mem_map.mp hq
  have e : q.1 = tl (rowT x) := by rw [← hx]
  rw [← he, e]
  exact dots_no13 x
theorem kind_ok (x : Str) : ¬ Builtin.Str.strKind x < Builtin.Str.strKind cr2 := by
  have h1 := strKind_pos x
  have h2 : Builtin.Str.strKind cr2 = 1 := by decide +kernel
  omega
theorem rs_ne {nums : List Int} (hn : nums ≠ []) : (rsOf nums).map (fun q => dots q.1) ≠ [] := by
  cases nums with
  | nil => exact absurd rfl hn
  | cons a r => exact List.cons_ne_nil _ _
theorem tl_mk (l : List Nat) : tl ⟨l.toArray⟩ = l := by simp [tl]
theorem mk_dot (y : Str) : (⟨(dots (tl y)).toArray⟩ : Str) = dotT y := by
  apply str_ext
  rw [tl_mk, dot_tl]
theorem rs_strs (nums : List Int) : ((rsOf nums).map fun q => dots q.1).map (fun r => (⟨r.toArray⟩ : Str)) = (nums.map rowT).map dotT := by
  induction nums with
  | nil => rfl
  | cons a r ih =>
    have e : rsOf (a :: r) = (tl (rowT a), sepS a) :: rsOf r := by unfold rsOf; rw [List.map_cons]
    rw [e, List.map_cons, List.map_cons, List.map_cons, List.map_cons, ih, mk_dot]
theorem split_sent {nums : List Int} (hn : nums ≠ []) : Txt.split (sentT nums) cr2 = (nums.map rowT).map dotT ++ [⟨#[]⟩] := by
  have h := split_rows (sentT nums) _ (sentT_tl nums) (rs_no13 nums) (kind_ok _) (rs_ne hn)
  rw [h, rs_strs]
theorem strs_but : ∀ {xs : List Str} {z : Str} {vs : List Value}, StrsAre vs (xs ++ [z]) → StrsAre (vs.take xs.length) xs
  | [], _, _, _ => by simp only [List.length_nil, List.take_zero]; exact .nil
  | x :: xs, z, _, .cons _ t h => by
    show StrsAre ((Value.str x t :: _).take (xs.length + 1)) _
    rw [List.take_succ_cons]
    exact .cons _ _ (strs_but h)
theorem slice_but {prog : Program} {w : World} {A : Around} {E : Value → Shared → Prop} {s : Shared} {h₀ : Heap} {L : Addr} {m : Str → Option Value} {news : List (Addr × Obj)} {value slice : Expr} {l : Addr} {vs : List Value} {xs : List Str} {z : Str} {u : Tok} {k : Nat} {Q : Value → Shared → Prop}
    (F : Fr h₀ L s.heap m) (N : News h₀ L s.heap ((l, listOf vs.toArray k) :: news)) (hi : StrsAre vs (xs ++ [z])) (hl : xs.length ≤ 17)
    (h : ∀ D us h', StrsAre us xs → Fr h₀ L h' m → News h₀ L h' ((D, listOf us.toArray 0) :: news) → Q (.ref D) { s with heap := h' })
    (hs : subscripted slice false (.ref l) (.ref s.heap.objs.size) = operate [.ref s.heap.objs.size, .ref l] (getItem (.ref l) (.ref s.heap.objs.size)) := by with_unfolding_all rfl)
    (ht : ∀ r, letTemporaryGo value (.ref l) r = pure () := by intro _; with_unfolding_all rfl) :
    wpAny (model prog w) A (subscriptTail value slice (.ref l) (.ref s.heap.objs.size)) Q E { s with heap := s.heap.push { cls := .type "slice", data := .fields #[.none, .int (-1) u, .none] } } := by
  have hlen := hi.length
  rw [List.length_append, List.length_singleton] at hlen
  refine slice_list F N (N.isList (.head _)) .none (.int (-1) u) (fun h' F' N' => ?_) hs ht (by rw [List.size_toArray]; exact Nat.le_trans (show vs.length ≤ 18 by omega) (by decide))
  have e : slicePick vs.toArray none (some (-1)) none = (vs.take xs.length).toArray := by
    have := slicePick_butLast vs.toArray 1 (by decide)
    rw [show (-1 : Int) = -((1 : Nat) : Int) from rfl, this, List.size_toArray, hlen, Nat.add_sub_cancel]
  rw [e] at N'
  exact h _ (vs.take xs.length) h' (strs_but hi) F' fun q hq => N' q (by
    rcases List.mem_cons.mp hq with rfl | hq
    · exact .head _
    · exact .tail _ (.tail _ hq))
noncomputable def undot (y : Str) : Str := if y.cps[0]? = some 46 then Txt.slice y (some 1) none else y
theorem undot_yes {y : Str} (h : 1 ≤ y.length) (e : (Txt.item y 0 == Str.ofString ".") = true) : Txt.slice y (some 1) none = undot y := by
  rw [dot_iff h] at e
  unfold undot
  rw [if_pos (of_decide_eq_true e)]
theorem undot_no {y : Str} (h : 1 ≤ y.length) (e : (Txt.item y 0 == Str.ofString ".") = false) : y = undot y := by
  rw [dot_iff h] at e
  unfold undot
  rw [if_neg (of_decide_eq_false e)]
theorem dot_head (y : Str) : (Str.ofString "." ++ y).cps[0]? = some 46 := by
  have h : (tl (Str.ofString "." ++ y))[0]? = some 46 := by
    rw [tl_app, show tl (Str.ofString ".") = [46] from by decide +kernel]
    rfl
  rw [← h]
  simp [tl]
theorem dot_len1 (y : Str) : 1 ≤ (Str.ofString "." ++ y).length := by
  have h : (Str.ofString ".").length = 1 := by decide +kernel
  rw [PySem.strLen_append]
  omega
theorem undot_add (y : Str) : undot (Str.ofString "." ++ y) = y := by
  unfold undot
  rw [if_pos (dot_head y)]
  apply str_ext
  have hs := slice_from (P := Str.ofString "." ++ y) (a := 1) (dot_len1 y)
  rw [show ((1 : Nat) : Int) = 1 from rfl] at hs
  rw [hs, tl_mk]
  show (tl (Str.ofString "." ++ y)).drop 1 = tl y
  rw [tl_app, show tl (Str.ofString ".") = [46] from by decide +kernel]
  rfl
theorem undot_dot (y : Str) : undot (dotT y) = y := by
  unfold dotT
  split
  · exact undot_add y
  · rename_i h
    unfold undot
    rw [if_neg h]
theorem undots (nums : List Int) : ((nums.map rowT).map dotT).map undot = nums.map rowT := by
  induction nums with
  | nil => rfl
  | cons a r ih => rw [List.map_cons, List.map_cons, List.map_cons, ih, undot_dot]
theorem abs4 {h₀ h : Heap} {L : Addr} {m : Str → Option Value} {a1 a2 a3 a4 : Str} {v1 v2 v3 v4 : Value} (F : Fr h₀ L h m) (h1 : m a1 = some v1) (h2 : m a2 = some v2) (h3 : m a3 = some v3) (h4 : m a4 = some v4) :
    ∃ m' : Str → Option Value, Fr h₀ L h (fun y => if y = a1 then some v1 else if y = a2 then some v2 else if y = a3 then some v3 else if y = a4 then some v4 else m' y) := ⟨m, by
  have e : m = fun y => if y = a1 then some v1 else if y = a2 then some v2 else if y = a3 then some v3 else if y = a4 then some v4 else m y := by
    funext y
    split
    · rename_i h; rw [h, h1]
    split
    · rename_i h; rw [h, h2]
    split
    · rename_i h; rw [h, h3]
    split
    · rename_i h; rw [h, h4]
    rfl
  exact e ▸ F⟩
theorem zsh_yes {us : List Value} {nums : List Int} {i : Nat} {x : Int} {y : Str} {t : Tok} {q : Int → Bool} (hK : StrsAre us (((nums.take i).filter q).map rowT)) (hti : nums.take (i + 1) = nums.take i ++ [x]) (hy : Is (rowT x) y) (hq : q x = true) :
    StrsAre (us ++ [.str y t]) (((nums.take (i + 1)).filter q).map rowT) := by
  unfold Is at hy
  subst hy
  rw [hti, List.filter_append, List.map_append]
  have : [x].filter q = [x] := by simp [hq]
  rw [this]
  exact hK.append' (.cons _ _ .nil)
theorem zsh_no {us : List Value} {nums : List Int} {i : Nat} {x : Int} {q : Int → Bool} (hK : StrsAre us (((nums.take i).filter q).map rowT)) (hti : nums.take (i + 1) = nums.take i ++ [x]) (hq : q x = false) :
    StrsAre us (((nums.take (i + 1)).filter q).map rowT) := by
  rw [hti, List.filter_append, List.map_append]
  have : [x].filter q = [] := by simp [hq]
  rw [this, List.map_nil, List.append_nil]
  exact hK
noncomputable def isStar : Tk → Bool
  | .star => true
  | _ => false
theorem star_first {rest : List Tk} (h : rest.all (fun t => !isStar t) = true) : ∀ done ts, Tk.star :: rest = done ++ Tk.star :: ts → done = [] ∨ done = [Tk.dot]
  | [], _, _ => .inl rfl
  | d :: ds, ts, e => by
    have e2 : rest = ds ++ Tk.star :: ts := (List.cons.inj e).2
    rw [e2, List.all_append, List.all_cons] at h
    simp [isStar] at h
theorem star_dot : ∀ done ts, [Tk.dot, Tk.star] = done ++ Tk.star :: ts → done = [] ∨ done = [Tk.dot]
  | [], _, e => by cases (List.cons.inj e).1
  | [d], _, e => by
    cases (List.cons.inj e).1
    exact .inr rfl
  | d :: d2 :: ds, ts, e => by
    have e2 := (List.cons.inj (List.cons.inj e).2).2
    cases ds <;> cases e2
noncomputable def restK (k : Nat) : List Tk := [Tk.blank] ++ List.replicate k Tk.ques ++ [Tk.cls] ++ List.replicate (9 - k) Tk.ques
noncomputable def allK (k : Nat) : List Tk := Tk.star :: restK k
noncomputable def globT (k : Int) : Str := Str.ofString "* " ++ Txt.mul (Str.ofString "?") k ++ Str.ofString "[!-]" ++ Txt.mul (Str.ofString "?") (9 - k)
theorem allK_star {k : Nat} (hk : k < 10) : ∀ done ts, allK k = done ++ Tk.star :: ts → done = [] ∨ done = [Tk.dot] := star_first (by
  have : k = 0 ∨ k = 1 ∨ k = 2 ∨ k = 3 ∨ k = 4 ∨ k = 5 ∨ k = 6 ∨ k = 7 ∨ k = 8 ∨ k = 9 := by omega
  rcases this with rfl | rfl | rfl | rfl | rfl | rfl | rfl | rfl | rfl | rfl <;> decide)
theorem globT_tl {k : Nat} (hk : k < 10) : (globT (k : Int)).cps.toList = (allK k).flatMap Tk.signs := by
  have : k = 0 ∨ k = 1 ∨ k = 2 ∨ k = 3 ∨ k = 4 ∨ k = 5 ∨ k = 6 ∨ k = 7 ∨ k = 8 ∨ k = 9 := by omega
  rcases this with rfl | rfl | rfl | rfl | rfl | rfl | rfl | rfl | rfl | rfl <;> decide +kernel
theorem globT_len {k : Nat} (hk : k < 10) : (globT (k : Int)).length ≤ 1000 := by
  have : k = 0 ∨ k = 1 ∨ k = 2 ∨ k = 3 ∨ k = 4 ∨ k = 5 ∨ k = 6 ∨ k = 7 ∨ k = 8 ∨ k = 9 := by omega
  rcases this with rfl | rfl | rfl | rfl | rfl | rfl | rfl | rfl | rfl | rfl <;> decide +kernel
noncomputable def dotQ (x : Int) : Bool := decide ((rowT x).cps[0]? = some 46)
theorem mem_step {x : Str} {es : List Int} {e : Int} (t : Tk) (ht : isStar t = false) : e ∈ stepT x es t ↔ (e - 1 ∈ es ∧ e - 1 < (x.length : Int) ∧ takeT t (signAt x (e - 1)) = true) := by
  have key : ∀ f : Str → Bool, e ∈ ((es.filter fun e => decide (e < (x.length : Int)) && f (signAt x e)).map fun e => e + 1) ↔ (e - 1 ∈ es ∧ e - 1 < (x.length : Int) ∧ f (signAt x (e - 1)) = true) := by
    intro f
    rw [List.mem_map]
    constructor
    · rintro ⟨a, ha, rfl⟩
      obtain ⟨h1, h2⟩ := List.mem_filter.mp ha
      rw [Bool.and_eq_true] at h2
      rw [show a + 1 - 1 = a by omega]
      exact ⟨h1, of_decide_eq_true h2.1, h2.2⟩
    · rintro ⟨h1, h2, h3⟩
      refine ⟨e - 1, List.mem_filter.mpr ⟨h1, ?_⟩, by omega⟩
      rw [Bool.and_eq_true]
      exact ⟨decide_eq_true h2, h3⟩
  cases t with
  | star => cases ht
  | ques => exact key _
  | blank => exact key _
  | dot => exact key _
  | cls => exact key _
theorem mem_ques {x : Str} : ∀ (j : Nat) {es : List Int} {e : Int}, (∀ a ∈ es, 0 ≤ a ∧ a ≤ (x.length : Int)) → (e ∈ (List.replicate j Tk.ques).foldl (stepT x) es ↔ (e - (j : Int) ∈ es ∧ e ≤ (x.length : Int)))
  | 0, es, e, hb => by
    show e ∈ es ↔ _
    rw [show e - ((0 : Nat) : Int) = e by omega]
    exact ⟨fun h => ⟨h, (hb e h).2⟩, fun h => h.1⟩
  | j + 1, es, e, hb => by
    rw [List.replicate_succ, List.foldl_cons]
    have hb' : ∀ a ∈ stepT x es Tk.ques, 0 ≤ a ∧ a ≤ (x.length : Int) := by
      intro a ha
      obtain ⟨h1, h2, _⟩ := (mem_step Tk.ques rfl).mp ha
      have := hb _ h1
      omega
    rw [mem_ques j hb', mem_step Tk.ques rfl]
    rw [show e - (j : Int) - 1 = e - ((j + 1 : Nat) : Int) by omega]
    constructor
    · rintro ⟨⟨h1, h2, _⟩, h3⟩
      exact ⟨h1, h3⟩
    · rintro ⟨h1, h3⟩
      exact ⟨⟨h1, by have := hb _ h1; omega, rfl⟩, h3⟩
theorem mem_star0 {x : Str} {e : Int} : e ∈ stepT x [0] Tk.star ↔ (0 ≤ e ∧ e ≤ (x.length : Int)) := by
  show e ∈ ((rangeKs 0 (x.length + 1)).filter fun k => !decide (([0] : List Int) = []) && decide (([0] : List Int).getD 0 0 ≤ k)).map (fun k => k) ↔ _
  rw [List.map_id', List.mem_filter]
  constructor
  · rintro ⟨h1, _⟩
    have := mem_rangeKs h1
    omega
  · rintro ⟨h1, h2⟩
    refine ⟨?_, ?_⟩
    · unfold rangeKs
      rw [List.mem_map]
      exact ⟨e.toNat, List.mem_range.mpr (by omega), by omega⟩
    · simp only [Bool.and_eq_true, Bool.not_eq_true', decide_eq_false_iff_not, decide_eq_true_eq]
      first | exact h1 | simpa using h1
theorem taken_iff {x : Str} (hl : x.length = 13) {k : Nat} (hk : k < 10) (h2 : takeT Tk.blank (signAt x 2) = true) :
    takenT (allK k) x = takeT Tk.cls (signAt x ((3 + k : Nat) : Int)) := by
  have hb1 : ∀ a ∈ stepT x [0] Tk.star, 0 ≤ a ∧ a ≤ (x.length : Int) := fun a ha => mem_star0.mp ha
  have hb2 : ∀ a ∈ stepT x (stepT x [0] Tk.star) Tk.blank, 0 ≤ a ∧ a ≤ (x.length : Int) := by
    intro a ha
    obtain ⟨q1, q2, _⟩ := (mem_step Tk.blank rfl).mp ha
    have := hb1 _ q1
    omega
  have hb3 : ∀ a ∈ (List.replicate k Tk.ques).foldl (stepT x) (stepT x (stepT x [0] Tk.star) Tk.blank), 0 ≤ a ∧ a ≤ (x.length : Int) := by
    intro a ha
    obtain ⟨q1, q2⟩ := (mem_ques k hb2).mp ha
    have := hb2 _ q1
    omega
  have hb4 : ∀ a ∈ stepT x ((List.replicate k Tk.ques).foldl (stepT x) (stepT x (stepT x [0] Tk.star) Tk.blank)) Tk.cls, 0 ≤ a ∧ a ≤ (x.length : Int) := by
    intro a ha
    obtain ⟨q1, q2, _⟩ := (mem_step Tk.cls rfl).mp ha
    have := hb3 _ q1
    omega
  have e0 : (allK k).foldl (stepT x) [0] = (List.replicate (9 - k) Tk.ques).foldl (stepT x) (stepT x ((List.replicate k Tk.ques).foldl (stepT x) (stepT x (stepT x [0] Tk.star) Tk.blank)) Tk.cls) := by
    unfold allK restK
    rw [List.foldl_cons, List.foldl_append, List.foldl_append, List.foldl_append]
    rfl
  have hmem : (13 : Int) ∈ (allK k).foldl (stepT x) [0] ↔ takeT Tk.cls (signAt x ((3 + k : Nat) : Int)) = true := by
    rw [e0, mem_ques (9 - k) hb4, mem_step Tk.cls rfl, mem_ques k hb2, mem_step Tk.blank rfl, mem_star0, hl]
    have a1 : (13 : Int) - ((9 - k : Nat) : Int) - 1 = ((3 + k : Nat) : Int) := by omega
    have a2 : (13 : Int) - ((9 - k : Nat) : Int) - 1 - (k : Int) - 1 = 2 := by omega
    rw [a2, a1, h2]
    constructor
    · rintro ⟨⟨_, _, h⟩, _⟩
      exact h
    · intro h
      refine ⟨⟨⟨⟨⟨by omega, by omega⟩, by omega, rfl⟩, by omega⟩, by omega, h⟩, by omega⟩
  unfold takenT
  rw [hl]
  cases hc : takeT Tk.cls (signAt x ((3 + k : Nat) : Int)) with
  | true =>
    rw [List.any_eq_true]
    exact ⟨13, hmem.mpr hc, rfl⟩
  | false =>
    rw [List.any_eq_false]
    intro a ha h
    have : a = 13 := by simpa using h
    subst this
    rw [hmem.mp ha] at hc
    cases hc
theorem sign_code {x : Str} {i c : Nat} (h : (tl x)[i]? = some c) : signAt x (i : Int) = ⟨#[c]⟩ := by
  unfold signAt
  have e : x.cps[i]? = some c := by
    rw [← h]
    simp [tl]
  have h2 : x.cps.getD i 0 = c := by
    rw [Array.getD_eq_getD_getElem?, e]
    rfl
  rw [show ((i : Nat) : Int).toNat = i from rfl, h2]
noncomputable def dashQ (c : Nat) : Bool := takeT Tk.cls ⟨#[c]⟩
theorem dq : dashQ 45 = false ∧ dashQ 100 = true ∧ dashQ 114 = true ∧ dashQ 119 = true ∧ dashQ 120 = true ∧ dashQ 115 = true ∧ dashQ 83 = true ∧ dashQ 116 = true ∧ dashQ 84 = true := by decide +kernel
theorem dD (e : Int) : dashQ (cD e) = (e == 1) := by
  unfold cD
  by_cases h : e = 1
  · rw [if_pos h, dq.2.1, h]; rfl
  · rw [if_neg h, dq.1]; exact (beq_eq_false_iff_ne.mpr h).symm
theorem dR (e : Int) : dashQ (cR e) = (e == 1) := by
  unfold cR
  by_cases h : e = 1
  · rw [if_pos h, dq.2.2.1, h]; rfl
  · rw [if_neg h, dq.1]; exact (beq_eq_false_iff_ne.mpr h).symm
theorem dW (e : Int) : dashQ (cW e) = (e == 1) := by
  unfold cW
  by_cases h : e = 1
  · rw [if_pos h, dq.2.2.2.1, h]; rfl
  · rw [if_neg h, dq.1]; exact (beq_eq_false_iff_ne.mpr h).symm
theorem dX (a e : Int) : dashQ (cX a e) = (a == 1 || e == 1) := by
  unfold cX
  obtain ⟨q1, q2, q3, q4, q5, q6, q7, q8, q9⟩ := dq
  by_cases h : a = 1
  · by_cases h2 : e = 1
    · rw [if_pos ⟨h, h2⟩, q6, h]; rfl
    · rw [if_neg (fun q => h2 q.2), if_pos h, q7, h]; rfl
  · by_cases h2 : e = 1
    · rw [if_neg (fun q => h q.1), if_neg h, if_pos h2, q5, h2, beq_eq_false_iff_ne.mpr h]; rfl
    · rw [if_neg (fun q => h q.1), if_neg h, if_neg h2, q1, beq_eq_false_iff_ne.mpr h, beq_eq_false_iff_ne.mpr h2]; rfl
theorem dT (a e : Int) : dashQ (cT a e) = (a == 1 || e == 1) := by
  unfold cT
  obtain ⟨q1, q2, q3, q4, q5, q6, q7, q8, q9⟩ := dq
  by_cases h : a = 1
  · by_cases h2 : e = 1
    · rw [if_pos ⟨h, h2⟩, q8, h]; rfl
    · rw [if_neg (fun q => h2 q.2), if_pos h, q9, h]; rfl
  · by_cases h2 : e = 1
    · rw [if_neg (fun q => h q.1), if_neg h, if_pos h2, q5, h2, beq_eq_false_iff_ne.mpr h]; rfl
    · rw [if_neg (fun q => h q.1), if_neg h, if_neg h2, q1, beq_eq_false_iff_ne.mpr h, beq_eq_false_iff_ne.mpr h2]; rfl
theorem bit_f (x n : Int) (hn : 0 < n) : ((x.fdiv 2).fdiv n).fmod 2 = bit (x / 2) n := by
  rw [PyProof.Rows.fmod_eq _ (b := 2) (by decide), PyProof.Rows.fdiv_eq _ hn, PyProof.Rows.fdiv_eq _ (b := 2) (by decide)]
  rfl
theorem shown_sign (x : Int) {k : Nat} (hk : k < 10) : ∃ c, (sgn (x % 2) (x / 2))[k]? = some c ∧ dashQ c = shownB x k := by
  have : k = 0 ∨ k = 1 ∨ k = 2 ∨ k = 3 ∨ k = 4 ∨ k = 5 ∨ k = 6 ∨ k = 7 ∨ k = 8 ∨ k = 9 := by omega
  rcases this with rfl | rfl | rfl | rfl | rfl | rfl | rfl | rfl | rfl | rfl
  · exact ⟨_, rfl, by rw [dD]; show _ = (x.fmod 2 == 1); rw [PyProof.Rows.fmod_eq _ (by decide)]⟩
  · exact ⟨_, rfl, by rw [dR]; show _ = (((x.fdiv 2).fdiv 256).fmod 2 == 1); rw [bit_f _ _ (by decide)]⟩
  · exact ⟨_, rfl, by rw [dW]; show _ = (((x.fdiv 2).fdiv 128).fmod 2 == 1); rw [bit_f _ _ (by decide)]⟩
  · exact ⟨_, rfl, by rw [dX]; show _ = (((x.fdiv 2).fdiv 2048).fmod 2 == 1 || ((x.fdiv 2).fdiv 64).fmod 2 == 1); rw [bit_f _ _ (by decide), bit_f _ _ (by decide)]⟩
  · exact ⟨_, rfl, by rw [dR]; show _ = (((x.fdiv 2).fdiv 32).fmod 2 == 1); rw [bit_f _ _ (by decide)]⟩
  · exact ⟨_, rfl, by rw [dW]; show _ = (((x.fdiv 2).fdiv 16).fmod 2 == 1); rw [bit_f _ _ (by decide)]⟩
  · exact ⟨_, rfl, by rw [dX]; show _ = (((x.fdiv 2).fdiv 1024).fmod 2 == 1 || ((x.fdiv 2).fdiv 8).fmod 2 == 1); rw [bit_f _ _ (by decide), bit_f _ _ (by decide)]⟩
  · exact ⟨_, rfl, by rw [dR]; show _ = (((x.fdiv 2).fdiv 4).fmod 2 == 1); rw [bit_f _ _ (by decide)]⟩
  · exact ⟨_, rfl, by rw [dW]; show _ = (((x.fdiv 2).fdiv 2).fmod 2 == 1); rw [bit_f _ _ (by decide)]⟩
  · exact ⟨_, rfl, by rw [dT]; show _ = (((x.fdiv 2).fdiv 512).fmod 2 == 1 || ((x.fdiv 2).fdiv 1).fmod 2 == 1); rw [bit_f _ _ (by decide), bit_f _ _ (by decide)]⟩
theorem blank_ok : takeT Tk.blank ⟨#[32]⟩ = true := by decide +kernel
theorem taken_shown (x : Int) {k : Nat} (hk : k < 10) : takenT (allK k) (rowT x) = shownB x k := by
  obtain ⟨c, hc, hd⟩ := shown_sign x hk
  have h2 : (tl (rowT x))[2]? = some 32 := by rw [tl_row]; rfl
  have h3 : (tl (rowT x))[3 + k]? = some c := by
    rw [tl_row, show 3 + k = k + 1 + 1 + 1 by omega, List.getElem?_cons_succ, List.getElem?_cons_succ, List.getElem?_cons_succ]
    exact hc
  rw [taken_iff (rowT_len x) hk (by rw [show (2 : Int) = ((2 : Nat) : Int) from rfl, sign_code h2]; exact blank_ok), sign_code h3]
  exact hd
theorem mem_star1 {x : Str} {e : Int} (hx : 1 ≤ x.length) (es : List Int) (hes : es = [1] ∨ es = []) : (x.length : Int) ∈ stepT x es Tk.star ↔ es = [1] := by
  show (x.length : Int) ∈ ((rangeKs 0 (x.length + 1)).filter fun k => !decide (es = []) && decide (es.getD 0 0 ≤ k)).map (fun k => k) ↔ _
  rw [List.map_id', List.mem_filter]
  rcases hes with rfl | rfl
  · constructor
    · intro _; rfl
    · intro _
      refine ⟨?_, ?_⟩
      · unfold rangeKs
        rw [List.mem_map]
        exact ⟨x.length, List.mem_range.mpr (by omega), by omega⟩
      · have h1 : decide (([1] : List Int).getD 0 0 ≤ (x.length : Int)) = true := decide_eq_true (by show (1 : Int) ≤ _; omega)
        rw [h1]; rfl
  · constructor
    · rintro ⟨_, h⟩
      cases h
    · intro h; cases h
noncomputable def dotC (c : Nat) : Bool := takeT Tk.dot ⟨#[c]⟩
theorem dotC_eq (c : Nat) : dotC c = decide (c = 46) := by
  show ((⟨#[c]⟩ : Str) == Str.ofString ".") = _
  rw [dot_str]
  by_cases h : c = 46
  · rw [h]; rfl
  · rw [decide_eq_false h]
    exact beq_eq_false_iff_ne.mpr fun e => h (by injection e with e; simpa using e)
theorem taken_dot_g {r : Str} (hl : r.length = 13) : takenT [Tk.dot, Tk.star] r = takeT Tk.dot (signAt r 0) := by
  have hstep : stepT r [0] Tk.dot = if takeT Tk.dot (signAt r 0) = true then [1] else [] := by
    show (([0] : List Int).filter fun e => decide (e < (r.length : Int)) && takeT Tk.dot (signAt r e)).map (fun e => e + 1) = _
    rw [List.filter_cons, hl]
    cases takeT Tk.dot (signAt r 0) <;> rfl
  unfold takenT
  show (stepT r (stepT r [0] Tk.dot) Tk.star).any _ = _
  rw [hstep]
  cases hd : takeT Tk.dot (signAt r 0) with
  | true =>
    rw [if_pos rfl, List.any_eq_true]
    exact ⟨_, (mem_star1 (e := 0) (by rw [hl]; decide) [1] (.inl rfl)).mpr rfl, beq_self_eq_true _⟩
  | false =>
    rw [if_neg (by decide), List.any_eq_false]
    intro a ha h
    have e : a = (r.length : Int) := by simpa using h
    rw [e] at ha
    have := (mem_star1 (e := 0) (by rw [hl]; decide) [] (.inr rfl)).mp ha
    cases this
theorem dot_g {r : Str} {c : Nat} (h : (tl r)[0]? = some c) : takeT Tk.dot (signAt r 0) = decide (r.cps[0]? = some 46) := by
  have h1 : r.cps[0]? = some c := by rw [← h]; simp [tl]
  rw [h1, show (0 : Int) = ((0 : Nat) : Int) from rfl, sign_code h]
  refine (dotC_eq c).trans ?_
  by_cases h : c = 46
  · rw [h]; rfl
  · rw [decide_eq_false h]
    exact (decide_eq_false fun e => h (Option.some.inj e)).symm
theorem taken_dot (x : Int) : takenT [Tk.dot, Tk.star] (rowT x) = dotQ x := by
  have h0 : (tl (rowT x))[0]? = some (nm (x / 8192 % 4)) := by rw [tl_row]; rfl
  exact (taken_dot_g (rowT_len x)).trans (dot_g h0)
theorem filt_rows (nums : List Int) (p : Str → Bool) (q : Int → Bool) (h : ∀ x, p (rowT x) = q x) : (nums.map rowT).filter p = (nums.filter q).map rowT := by
  induction nums with
  | nil => rfl
  | cons a r ih =>
    rw [List.map_cons, List.filter_cons, List.filter_cons, h a, ih]
    split
    · rw [List.map_cons]
    · rfl
theorem taken_list (nums : List Int) {k : Nat} (hk : k < 10) : (nums.map rowT).filter (takenT (allK k)) = (nums.filter fun x => shownB x k).map rowT := filt_rows nums _ _ fun x => taken_shown x hk
theorem rows_le (nums : List Int) : ∀ y ∈ nums.map rowT, y.length ≤ 16 := fun y hy => Nat.le_trans (rows_len nums y hy).2 (by decide)
theorem taken_list2 (nums : List Int) : (nums.map rowT).filter (takenT [Tk.dot, Tk.star]) = (nums.filter dotQ).map rowT := filt_rows nums _ _ taken_dot
theorem zat2 {us ys : List Value} {nums : List Int} {f g : Int → Str} {i : Nat} {va vb : Value} (hN : StrsAre us (nums.map f)) (hs : StrsAre ys (nums.map g)) (h1 : us[i]? = some va) (h2 : ys[i]? = some vb) :
    ∃ x, nums.take (i + 1) = nums.take i ++ [x] ∧ (∃ y ty, va = .str y ty ∧ Is (f x) y) ∧ ∃ z tz, vb = .str z tz ∧ Is (g x) z := by
  obtain ⟨y, ty, e1, hy⟩ := StrsAre.item hN i va h1
  obtain ⟨z, tz, e2, hz⟩ := StrsAre.item hs i vb h2
  rw [List.getElem?_map] at hy hz
  cases hx : nums[i]? with
  | none => rw [hx] at hy; cases hy
  | some x =>
    rw [hx] at hy hz
    exact ⟨x, by rw [List.take_add_one, hx]; rfl, ⟨y, ty, e1, (Option.some.inj hy).symm⟩, z, tz, e2, (Option.some.inj hz).symm⟩
theorem dot_longer_g (r : Str) : decide (r.cps[0]? = some 46) = decide ((r.length : Int) < ((dotT r).length : Int)) := by
  have h1 : (Str.ofString ".").length = 1 := by decide +kernel
  by_cases h : r.cps[0]? = some 46
  · have e : dotT r = Str.ofString "." ++ r := by unfold dotT; rw [if_pos h]
    rw [decide_eq_true h, e, PySem.strLen_append, h1]
    exact (decide_eq_true (by omega)).symm
  · have e : dotT r = r := by unfold dotT; rw [if_neg h]
    rw [decide_eq_false h, e]
    exact (decide_eq_false (by omega)).symm
theorem dot_longer {x : Int} {y z : Str} (hy : Is (rowT x) y) (hz : Is (dotT (rowT x)) z) : dotQ x = decide ((y.length : Int) < (z.length : Int)) := by
  unfold Is at hy hz
  rw [hy, hz]
  exact dot_longer_g (rowT x)
theorem len_is {x : Int} {y z : Str} (hy : Is (rowT x) y) (hz : Is (dotT (rowT x)) z) : y.length = 13 ∧ z.length ≤ 14 := by
  unfold Is at hy hz
  have h1 : y.length = 13 := by rw [hy]; exact rowT_len x
  have h := dotT_len y
  rw [← hy] at hz
  rw [← hz] at h
  exact ⟨h1, by omega⟩
theorem zlen2 {us ys : List Value} {nums : List Int} {f g : Int → Str} (hN : StrsAre us (nums.map f)) (hs : StrsAre ys (nums.map g)) : us.length = ys.length := by
  rw [hN.length, hs.length, List.length_map, List.length_map]
theorem zsz2 {us : List Value} {nums : List Int} {f : Int → Str} (hN : StrsAre us (nums.map f)) (h : nums.length ≤ 17) : us.length ≤ 1000 := by
  rw [hN.length, List.length_map]; omega
noncomputable def LEnd (h₀ : Heap) (s : Shared) (r : Value) (s' : Shared) : Prop :=
  r = .bool true ∧ ∃ tb' h' tk g', s' = { s with heap := h', gens := g', toks := tk } ∧ TabOk tb' ∧ AllBare g' ∧ (∀ b o, h₀.get? b = some o → h'.get? b = some o) ∧ h'.get? 67 = some (tabObj tb')
end Mine
end
-- part LawW
namespace Mine
theorem calm_LawW (M : PySem.Model) (A : PySem.Around) (e : PySem.Env) (Q : PySem.Flow → PySem.Shared → Prop) (E : PySem.Value → PySem.Shared → Prop) (s : PySem.Shared) (h : PySem.wpAny M A (PySem.execs [] e) Q E s) : PySem.wpAny M A (PySem.execs [] e) Q E s := by
  w_top off
  first | (walk1; fail) | exact h
end Mine
section
open PySem PySem.W PyProof.Rows PySem.Spec PySem.Calls
set_option linter.unusedVariables false
set_option linter.unusedSimpArgs false
set_option maxRecDepth 100000
set_option maxHeartbeats 12000000
namespace Mine
local macro_rules | `(tactic| k_ne) => `(tactic| (refine neN ?_; (try dsimp only); first | exact OffA.l (by k_asm) (by k_mem) | exact OffA.r (by k_asm) (by k_mem) | omega))
local macro_rules | `(tactic| walk_at "CompSrc") => `(tactic| (k_dflt ((try dsimp only); (show LCg.CompSrc _ _ _ _ _ _ _ _ _ _ _ _ _ _); (first
  | ((rename MapI _ => hf'); (rename IntsAre _ _ => hi'); (rename List.length _ ≤ 17 => hl'); (refine LCg.CompSrc.ledger (by rfl) (by k_asm) (by k_asm) (by k_mem) (ints_size hi' hl') ?_); intro g'; (refine' comp_mapI hf' hi' (fun k' t' I' oI' C' oC' D' m' ys' h' tk' E' hk' hC' hx' F' N' off' => ?_) (fun ys' hys' => ?_)))
  | ((rename MapS _ => hf'); (rename StrsAre _ _ => hi'); (rename List.length _ ≤ 17 => hl'); (rename AllLen _ _ => ha'); (refine LCg.CompSrc.ledger (by rfl) (by k_asm) (by k_asm) (by k_mem) (strs_size hi' hl') ?_); intro g'; (refine' comp_mapS hf' hi' (fun k' t' I' oI' C' oC' D' m' ys' h' tk' E' hk' hC' hx' F' N' off' => ?_) (fun ys' hys' => ?_)); (try (have hln' := ha' _ hk'; obtain ⟨hln1', hln2'⟩ := hln'; clear hk')))); (all_goals (try dsimp only)); (all_goals (try k_sweep)))))
local macro_rules | `(tactic| walk_at "CompEnd") => `(tactic| (k_dflt (refine cs_yes (by k_asm) (by k_asm) (by k_asm) (by lcg_src) (by lcg_sub) ?_; first | ((with_reducible refine row_eq ?_ ?_) <;> with_reducible assumption) | ((with_reducible refine' row_eq2 ?hq1 ?hq2 ?hq3); (case hq1 => with_reducible assumption); (case hq2 => with_reducible assumption); (case hq3 => (unfold modeI; first | rw [if_pos (by with_reducible assumption)] | rw [if_neg (by with_reducible assumption)]))) | skip)))
local macro_rules | `(tactic| walk_at "FinA") => `(tactic| ((unfold LCg.FinA); intro D' h' tk' F' N' o1'; (replace o1' := OffA.of1 o1'); (try dsimp only [keysOf] at o1'); (try simp only [List.nil_append, List.cons_append] at N'); (try dsimp only)))
local macro_rules | `(tactic| walk_at "call ref") => `(tactic| (k_dflt ((first
  | (refine useC0 (o_name _ _ _ _ _ _ _ _) (by k_asm) (by k_asm) (by k_asm) (by k_asm) rfl (roomD (by k_asm) (by decide)) (roomU (by k_asm) (by decide)) ?_; intro r' h' tk' hr' F' N'; obtain ⟨y', t', hr2', hy', hl'⟩ := hr'; subst hr2')
  | (refine useC0 (o_signs _ _ _ _ _ _ _ _) (by k_asm) (by k_asm) (by k_asm) (by k_asm) rfl (roomD (by k_asm) (by decide)) (roomU (by k_asm) (by decide)) ?_; intro r' h' tk' hr' F' N'; obtain ⟨y', t', hr2', hy', hl'⟩ := hr'; subst hr2')
  | (refine useC0 (o_mode _ _ _ _ _ _ _ _) (by k_asm) (by k_asm) (by k_asm) (by k_asm) rfl (roomD (by k_asm) (by decide)) (roomU (by k_asm) (by decide)) ?_; intro r' h' tk' hr' F' N'; obtain ⟨y', t', hr2', hy', hl'⟩ := hr'; subst hr2')); (try dsimp only); (try k_sweep))))
local macro_rules | `(tactic| walk_at "compareOp NotEq ref ref") => `(tactic| (k_dflt ((rename OkS (_ : List Str) => hok'); (refine ne_strs_same (News.isList (by k_asm) (by k_mem)) (News.isList (by k_asm) (by k_mem)) (by with_reducible assumption) (by with_reducible assumption) rfl hok' (roomC (by k_asm)) ?_))))
local macro_rules | `(tactic| walk_at "binaryOp Add str str") => `(tactic| (k_dflt ((refine SBL.add (hsz := addsz (by omega) (by omega)) ?_); intro _ _ _)))
local macro_rules | `(tactic| walk_at "eval ListComp") => `(tactic| (k_here; (with_reducible show wpAny _ _ (eval (Expr.ListComp _ [⟨Expr.Tuple _ _ _, _, _, 0⟩] _ _) _) _ _ _); k_dflt (refine zc_start (by with_unfolding_all rfl) (by rfl) (by decide) ?_)))
local macro_rules | `(tactic| walk_at "ZEnd") => `(tactic| (k_dflt (refine ZEnd.mk (by k_asm) (by k_asm) (by unfold ITS; lcg_sub) ?_)))
local macro_rules | `(tactic| walk_at "eval ListComp") => `(tactic| (k_here; (with_reducible show wpAny _ _ (eval (Expr.ListComp _ [⟨Expr.Name _ _, _, [], 0⟩] _ _) _) _ _ _); k_dflt (refine LCg.ListComp_U (F₀ := by k_asm) (by rfl) (by decide) (by rfl) (by decide) (by rfl) ?_)))
local macro_rules | `(tactic| walk_at "compareOp NotEq str str") => `(tactic| ((with_reducible refine ne_str_same ?_)))
local macro_rules | `(tactic| walk_at "exec Assign cons ListComp") => `(tactic| (k_here; (with_reducible show wpAny _ _ (exec (Stmt.Assign [Expr.Name _ _] (Expr.ListComp _ [⟨Expr.Name _ _, _, [], 0⟩] _ _) _) _) _ _ _); k_dflt (refine LCg.Assign_ListComp_U (F₀ := by k_asm) (by rfl) (by with_unfolding_all rfl) (by rfl) (by decide) (by rfl) (by decide) (by rfl) (by rfl) (by rfl) ?_)))
local macro_rules | `(tactic| walk_at "exec For Name Call cons nil") => `(tactic| (k_here; (rename Fr _ _ _ _ => lF'); (with_unfolding_all refine' For_G lF' ?_); k_whole))
local macro_rules | `(tactic| walk_at "exec Assign cons ListComp") => `(tactic| (k_here; (with_reducible show wpAny _ _ (exec (Stmt.Assign [Expr.Name _ _] (Expr.ListComp _ [⟨Expr.Tuple _ _ _, _, _, 0⟩] _ _) _) _) _ _ _); k_dflt (refine zca_start (by with_unfolding_all rfl) (by with_unfolding_all rfl) (by rfl) (by decide) ?_)))
local macro_rules | `(tactic| walk_at "compareOp Eq ref ref") => `(tactic| (k_dflt ((rename OkS (_ : List Str) => hok'); (refine eq_strs_same (News.isList (by k_asm) (by k_mem)) (News.isList (by k_asm) (by k_mem)) (by with_reducible assumption) (by with_reducible assumption) rfl hok' (roomC (by k_asm)) ?_))))
section
variable (w : World) (p : Program) (loose : List Str) (mean : ExcName → Option Value) (mg mb : Str → Option Value)
theorem law_walk (dp u : Nat) (gd : Option (List Code)) (fr : Option (List Env)) (s : Shared) (h₀ : Heap) (tb : Array Value) (E : Value → Shared → Prop) (X : (Mine.hd.heap_1 w.params).In h₀) (T : Top p loose mean mg mb h₀) (G : Gh h₀ s.heap tb) (hT : TabOk tb) (C : CodeHd h₀ 71 67) (hb : AllBare s.gens)
    (Sc : Addr) (vs : List Value) (ns : List Int) (hS : h₀.IsList Sc vs.toArray) (hI : IntsAre vs ns) (hlen : ns.length ≤ 63)
    (hdp : dp + 40 < recursionLimit) (hun : u + 400 < cLine) :
    wpAny (model PR w) (Ar dp u gd fr) (call (.ref 157) [.ref Sc]) (fun r s' => LEnd h₀ s r s') E s := by
  have X' := X.keeps G.sub
  have T' := T.keeps G.sub
  (refine wpAny_call ?_; k_dflt (refine' enterC (K := Mine.hd.heap_1 _) ?kX ?kT ?k6 ?k7 ?k8 ?k9 ?kB ?kD ?_ ?c2 ?c3 ?c4; (case kX => assumption); (case kT => assumption); (case k6 => k_is); (case k7 => k_is); (case k8 => ((try simp only [Ar]); omega)); (case k9 => exact BindsTo.of_eq rfl); (case kB => exact rfl); (case kD => decide +kernel); (case c2 => exact rfl); (case c3 => exact rfl); (case c4 => exact rfl); k_whole; intro _ _ _ _ _ _ _; (try dsimp only); (try k_fold)))
  (rename Fr _ _ _ _ => F₁)
  (rename News _ _ _ _ => N₁)
  (rename CellsAre _ _ _ => Y₁)
  obtain ⟨oK, hc, d1⟩ := CellsAre.one Y₁
  subst hc
  replace d1 : oK.data = Data.cell none := d1
  clear Y₁
  obtain ⟨m', F₂⟩ := abs1 (Str.ofString "script") (.ref Sc) (G.fr F₁) rfl
  have N₂ := G.news2 F₁ N₁
  have l67 := G.lt F₁
  clear F₁ N₁ X' T'
  dsimp only [List.cons_append, List.nil_append] at N₂
  iterate 20 (first | walk1 | (dsimp only; walk1))
  (rename Fr _ _ _ _ => F₁)
  (rename News _ _ _ _ => N₁)
  (rename IntsAre _ ([33608, 206811] ++ ns.take 3) => hN)
  clear hI
  (rename IntsAre _ (ns.take 3) => hI)
  clear hI
  have hl2 : 2 ≤ ([33608, 206811] ++ ns.take 3).length := by simp
  have hl6 : ([33608, 206811] ++ ns.take 3).length ≤ 16 := by simp; omega
  have hl5 : ([33608, 206811] ++ ns.take 3).length ≤ 17 := by simp; omega
  generalize [33608, 206811] ++ ns.take 3 = nums at hN hl2 hl6 hl5
  have N₂ := drop23 N₁
  clear N₁
  have hf : MapI rowT := trivial
  have hok : OkS (nums.map rowT) := rows_ok nums
  iterate 93 (first | walk1 | (dsimp only; walk1) | (k_unfold; (try dsimp only)))
  rename_i L' h' tk l' h'_1 l1 D' ws' h'_2 hC' hL' l1_1 D'_1 ws'_1 h'_3 l1_2 h'_4 hi' hl' hf' hok' g' ys' hys' D'_2 h'_5 tk' F' N' o1' g'_1 ys'_1 hys'_1 D'_3 h'_6 tk'_1 F'_1 N'_1 o1'_1
  k_sweep
  (rename Fr _ _ _ _ => F₁)
  (rename News _ _ _ _ => N₁)
  (rename IntsAre _ _ => hN)
  replace N₁ := PyProof.Rows.News.tail' N₁
  iterate 15 (first | walk1 | (dsimp only; walk1) | (k_unfold; (try dsimp only)))
  (rename Fr _ _ _ _ => F₁)
  (rename News _ _ _ _ => N₁)
  refine' zip_plain (fun i ys => StrsAre ys ((nums.take i).map fun x => rowT x ++ sepT x)) rfl (.tail _ (.head _)) (.head _) F₁ N₁ (zlen hN ‹StrsAre _ _›) (zsz hN (by k_asm)) (by decide) (by rfl) (by rfl) (by rfl) (by decide) .nil (fun i va vb ys h tk Z oz o1 o2 o3 o4 C oC D m' E' hva hvb hK hC hm1 hm2 F N => ?_) (fun D h tk ys hK hln F N o1 => ?_)
  · obtain ⟨x, tx, rfl, y, ty, rfl, hti, hy⟩ := zat hN ‹StrsAre _ _› hva hvb
    clear F₁ N₁ hva hvb
    have hlen : y.length = 13 := by unfold Is at hy; rw [hy]; exact rowT_len x
    unfold ITS at N
    k_steps
    · exact zdone hK hti hy (sep_at 0 _ (by assumption) rfl)
    · exact zdone hK hti hy (sep_at 1 _ (by assumption) rfl)
    · exact zdone hK hti hy (sep_at 2 _ (by assumption) rfl)
  clear F₁ N₁
  have hK2 : StrsAre ys (nums.map fun x => rowT x ++ sepT x) := by
    have e : nums.take ws'_1.length = nums := List.take_of_length_le (by rw [hN.length]; exact Nat.le_refl _)
    rw [← e]; exact hK
  clear hK
  iterate 1 (first | walk1 | (dsimp only; walk1) | (k_unfold; (try dsimp only)))
  (rename Fr _ _ _ _ => F₁)
  (rename News _ _ _ _ => N₁)
  refine join_listW (N₁.isList (.head _)) hK2 (by decide) (sum_w item1_len (by decide) (by k_asm)) ?_
  intro t' k'
  have hLt := listing_tl nums
  generalize Txt.join (Str.ofString "") (nums.map fun x => rowT x ++ sepT x) = listing at hLt
  replace N₁ := PyProof.Rows.News.tail' N₁
  clear hK2
  k_steps
  (rename Fr _ _ _ _ => F₁)
  (rename News _ _ _ _ => N₁)
  refine useC0 (c_quote w _ _ _ mg mb listing _ (rsOf nums) hLt (listing_len (by k_asm)) (rs_ok nums)) X ‹_› F₁ N₁ rfl (roomD hdp (by decide)) (roomU hun (by decide)) ?_
  rintro r h' tk ⟨sent, ⟨tS, rfl⟩, hSt⟩ F₃ N₃
  clear F₁ N₁
  rw [sent_tl] at hSt
  replace hSt := sent_is hSt
  clear hLt hys'_1
  rename_i zzA zzB tk_1 h'_7 tk_2
  (rename StrsAre _ _ => hR)
  (rename MapI _ => hf)
  (rename OkS (_ : List Str) => hok)
  clear hf
  have hM : MapS dotT := trivial
  have hA := rows_len nums
  have hl9 : (nums.map rowT).length ≤ 17 := by rw [List.length_map]; k_asm
  iterate 6 (first | walk1 | (dsimp only; walk1) | (k_unfold; (try dsimp only)))
  · k_steps
    · exact dot_yes (by k_asm) (by k_asm)
    · exact dot_no (by k_asm) (by k_asm)
  walk1
  (rename MapS _ => hM)
  clear hM
  (rename StrsAre _ (nums.map rowT) => hR)
  (rename StrsAre _ ((nums.map rowT).map dotT) => hD)
  (rename List.length (nums.map rowT) ≤ 17 => hl9)
  (rename AllLen _ _ => hA)
  replace hR : PySem.W.KIN.Hid (StrsAre _ (nums.map rowT)) := ⟨hR⟩
  replace hl9 : ((nums.map rowT).map dotT).length ≤ 17 := by rw [List.length_map]; exact hl9
  replace hA := dots_len nums
  have hM : MapS fun y => y ++ Str.ofString "\r\n" := trivial
  iterate 9 (first | walk1 | (dsimp only; walk1) | (k_unfold; (try dsimp only)))
  k_sweep
  iterate 3 (first | walk1 | (dsimp only; walk1) | (k_unfold; (try dsimp only)))
  · k_steps
  walk1
  (rename StrsAre _ (((nums.map rowT).map dotT).map _) => hE)
  (rename Fr _ _ _ _ => F₁)
  (rename News _ _ _ _ => N₁)
  iterate 1 (first | walk1 | (dsimp only; walk1) | (k_unfold; (try dsimp only)))
  refine join_listW (N₁.isList (.head _)) hE (by decide) (sum_wS (dcr_len nums) (by decide) (by rw [List.length_map]; k_asm)) ?_
  intro t9 k9
  rw [map_dots]
  rw [show Txt.join (Str.ofString "") ((nums.map rowT).map fun y => dotT y ++ Str.ofString "\r\n") = sent from hSt.symm]
  replace N₁ := PyProof.Rows.News.tail' N₁
  (rename MapS _ => hM)
  (rename AllLen _ _ => hA)
  (rename List.length (List.map dotT _) ≤ 17 => hl9)
  clear hE hM hA hl9
  (rename StrsAre _ ((nums.map rowT).map dotT) => hD)
  replace hD : PySem.W.KIN.Hid (StrsAre _ ((nums.map rowT).map dotT)) := ⟨hD⟩
  iterate 5 (first | walk1 | (dsimp only; walk1) | (k_unfold; (try dsimp only)))
  k_sweep
  rename_i zzC h'_9 g'_2 ys'_2 D'_4 h'_10 tk'_2 o1'_2 g'_3 ys'_3 D'_5 h'_11 tk'_3 o1'_3
  have hSt2 : sentT nums = sent := hSt.symm
  subst hSt2
  have hne : nums ≠ [] := fun e => by rw [e] at hl2; exact absurd hl2 (by decide)
  iterate 9 (first | walk1 | (dsimp only; walk1) | (k_unfold; (try dsimp only)))
  (rename Fr _ _ _ _ => F₁)
  (rename News _ _ _ _ => N₁)
  refine KSpl.split1 F₁ N₁ (by decide) ?_ (sentT_len (by k_asm))
  intro Dp lp h' kp ep ap F' N' lt'
  clear F₁ N₁
  rw [show Txt.split (sentT nums) (Str.ofString "\r\n") = (nums.map rowT).map dotT ++ [⟨#[]⟩] from split_sent hne] at ep
  rw [ep] at ap
  generalize strValues lp = vp at ap N'
  clear lt' ep
  iterate 8 (first | walk1 | (dsimp only; walk1) | (k_unfold; (try dsimp only)))
  dsimp only
  refine slice_but (s := ⟨_, _, _, _, _⟩) F' N' ap (by rw [List.length_map, List.length_map]; k_asm) ?_
  intro Dh us h'' hU F₁ N₁
  clear F' N' ap
  have hM : MapS undot := trivial
  have hl9 : ((nums.map rowT).map dotT).length ≤ 17 := by rw [List.length_map, List.length_map]; k_asm
  have hA := dots_len nums
  iterate 1 (first | walk1 | (dsimp only; walk1) | (k_unfold; (try dsimp only)))
  · k_steps
    · exact undot_yes (by k_asm) (by k_asm)
    · exact undot_no (by k_asm) (by k_asm)
  walk1
  (rename StrsAre _ (((nums.map rowT).map dotT).map undot) => hH)
  rw [undots] at hH
  replace hH : PySem.W.KIN.Hid (StrsAre _ (nums.map rowT)) := ⟨hH⟩
  (rename StrsAre _ ((nums.map rowT).map dotT) => hU)
  (rename AllLen _ _ => hA)
  (rename MapS _ => hM)
  (rename List.length (List.map dotT _) ≤ 17 => hl9)
  clear hU hA hM hl9
  k_sweep
  (rename Fr _ _ _ _ => F₁)
  (rename News _ _ _ _ => N₁)
  replace N₁ := drop2 N₁
  rename_i zzD g'_4 ys'_4 D'_6 h'_13 tk'_4 o1'_4
  iterate 9 (first | walk1 | (dsimp only; walk1) | (k_unfold; (try dsimp only)))
  (rename Fr _ _ _ _ => F₁)
  (rename News _ _ _ _ => N₁)
  (rename IsRange _ _ _ _ _ _ _ _ => hRg)
  refine law_loop (T := TabOk) rfl hRg rfl (by decide) F₁ N₁ d1 hT hb rfl rfl rfl rfl ?_ ?_
  · clear F₁ N₁ hRg
    intro k tk oK vK tb h₁ tk₁ g₁ m₁ Ia oI hk10 dK hT hb e1 e2 e3 e4 hne F N
    dsimp only [envOfC] at F N
    obtain ⟨m₂, F₂⟩ := abs4 F e1 e2 e3 e4
    clear F e1 e2 e3 e4 m₁
    dsimp only
    iterate 13 (first | walk1 | (dsimp only; walk1) | (k_unfold; (try dsimp only)))
    (rename Fr _ _ _ _ => F₁)
    (rename News _ _ _ _ => N₁)
    skip
    have hRu := hR.out
    refine' zip_testA (fun i ys => StrsAre ys (((nums.take i).filter fun x => shownB x k).map rowT)) rfl (by rfl) (by rfl) rfl (by k_mem) (by k_mem) F₁ N₁ (zlen hN hRu) (zsz hN (by k_asm)) (by decide) (by rfl) (by rfl) (by rfl) (by decide) .nil (fun i va vb ys h tk Z oz o1 o2 o3 o4 C oC D m' E' hva hvb hK hC hm1 hm2 F N => ?_) (fun D h tk ys hK hln F N o1 => ?_)
    · obtain ⟨x, tx, rfl, y, ty, rfl, hti, hy⟩ := zat hN hRu hva hvb
      clear F₁ N₁ hva hvb
      unfold ITS at N
      iterate 11 (first | walk1 | (dsimp only; walk1) | (k_unfold; (try dsimp only)))
      (rename Fr _ _ _ _ => F₁)
      (rename News _ _ _ _ => N₁)
      refine useC0 (c_shown w _ _ _ mg mb x k hk10 _ _) X ‹_› F₁ N₁ rfl (roomD hdp (by decide)) (roomU hun (by decide)) ?_
      rintro r h' tk rfl F₃ N₃
      clear F₁ N₁
      k_steps
      · exact zsh_yes hK hti hy (by k_asm)
      · exact zsh_no hK hti (by first | with_reducible assumption | exact Bool.eq_false_iff.mpr (by with_reducible assumption))
    have hK2 : StrsAre ys ((nums.filter fun x => shownB x k).map rowT) := by
      have e : nums.take ws'_1.length = nums := List.take_of_length_le (by rw [hN.length]; exact Nat.le_refl _)
      rw [← e]; exact hK
    clear hK F₁ N₁ hRu
    dsimp only
    iterate 30 (first | walk1 | (dsimp only; walk1) | (k_unfold; (try dsimp only)))
    (rename Fr _ _ _ _ => F₁)
    (rename News _ _ _ _ => N₁)
    show wpAny _ _ (call _ [Value.str (globT (k : Int)) _, _]) _ _ _
    have hHu := hH.out
    refine' useK (globT_tl hk10) (globT_len hk10) (allK_star hk10) X T C F₁ N₁ (by k_updF) hT hb (R := D'_6) (by k_mem) hHu (by rw [hHu.length, List.length_map]; exact hl6) (rows_le nums) rfl (roomD hdp (by decide)) (roomU hun (by decide)) ?_
    intro Dv vs' kv tb' h' tk g' hV hT' hb' F₂ N₂ oV
    rw [taken_list nums hk10] at hV
    have hok2 := rows_ok (nums.filter fun x => shownB x k)
    clear F₁ N₁ hHu
    dsimp only [keysOf] at oV
    iterate 3 (first | walk1 | (dsimp only; walk1) | (k_unfold; (try dsimp only)))
    k_steps
    (rename Fr _ _ _ _ => F₁)
    (rename News _ _ _ _ => N₁)
    exact LJ.end F₁ N₁ (by lcg_sub) hne (by k_asm) hT' hb' rfl rfl rfl rfl
  clear F₁ N₁ hRg d1 hT hb
  intro h' tk g' m' oK tb' hT hb e1 e2 e3 e4 F N
  dsimp only [envOfC] at F N
  obtain ⟨m₂, F₂⟩ := abs4 F e1 e2 e3 e4
  clear F e1 e2 e3 e4 m'
  rename_i zzE zzF zzG zzH F' N' h'_14 tk_5 t₁ u₁ v₁ a
  iterate 13 (first | walk1 | (dsimp only; walk1) | (k_unfold; (try dsimp only)))
  (rename Fr _ _ _ _ => F₁)
  (rename News _ _ _ _ => N₁)
  have hHu := hH.out
  have hRu := hR.out
  have key : ∀ (f : Int → Str) (g : Str → Str), StrsAre ys'_2 ((nums.map f).map g) → StrsAre ys'_2 (nums.map fun x => g (f x)) := fun f g h => by
    rw [List.map_map] at h
    exact h
  have hDu := key rowT dotT hD.out
  clear key
  refine' useK (all := [Tk.dot, Tk.star]) (by decide +kernel) (by decide +kernel) star_dot X T C F₁ N₁ (by k_updF) hT hb (R := D'_6) (by k_mem) hHu (by rw [hHu.length, List.length_map]; exact hl6) (rows_le nums) rfl (roomD hdp (by decide)) (roomU hun (by decide)) ?_
  intro Dv vs' kv tb' h' tk g' hV hT' hb' F₃ N₃ oV
  rw [taken_list2 nums] at hV
  replace hV := PySem.W.KIN.Hid.mk hV
  have hok2 := rows_ok (nums.filter dotQ)
  clear F₁ N₁ hHu
  dsimp only [keysOf] at oV
  iterate 9 (first | walk1 | (dsimp only; walk1) | (k_unfold; (try dsimp only)))
  (rename Fr _ _ _ _ => F₁)
  (rename News _ _ _ _ => N₁)
  refine' zip_test (fun i ys => StrsAre ys (((nums.take i).filter dotQ).map rowT)) rfl (l1 := D'_2) (l2 := D'_4) (by k_mem) (by k_mem) F₁ N₁ (zlen2 hRu hDu) (zsz2 hRu (by k_asm)) (by decide) (by rfl) (by rfl) (by rfl) (by decide) .nil (fun i va vb ys h tk Z oz o1 o2 o3 o4 C oC D m' E' hva hvb hK hC hm1 hm2 F N => ?_) (fun D h tk ys hK hln F N o1 => ?_)
  · obtain ⟨x, hti, ⟨y, ty, rfl, hy⟩, z, tz, rfl, hz⟩ := zat2 hRu hDu hva hvb
    clear F₁ N₁ hva hvb hRu hDu
    have hlen := len_is hy hz
    have hdl := PySem.W.KIN.Hid.mk (dot_longer hy hz)
    replace hK := PySem.W.KIN.Hid.mk hK
    replace hy := PySem.W.KIN.Hid.mk hy
    replace hz := PySem.W.KIN.Hid.mk hz
    unfold ITS at N
    k_steps
    · exact zsh_yes hK.out hti hy.out (hdl.out.trans (decide_eq_true (by with_reducible assumption)))
    · exact zsh_no hK.out hti (hdl.out.trans (decide_eq_false (by with_reducible assumption)))
  have hK2 : StrsAre ys ((nums.filter dotQ).map rowT) := by
    have e : nums.take ys'.length = nums := List.take_of_length_le (by rw [hRu.length, List.length_map]; exact Nat.le_refl _)
    rw [← e]; exact hK
  clear hK F₁ N₁ hRu hDu
  have hV2 := hV.out
  dsimp only
  iterate 1 (first | walk1 | (dsimp only; walk1))
  (rename Fr _ _ _ _ => F₁)
  (rename News _ _ _ _ => N₁)
  show LEnd h₀ s (.bool true) _
  exact ⟨rfl, tb', _, _, g', rfl, hT', hb', F₁.keep, (N₁ (67, tabObj tb') (by k_mem)).1⟩
end
end Mine
end
-- part Law0
namespace Mine
theorem calm_Law0 (M : PySem.Model) (A : PySem.Around) (e : PySem.Env) (Q : PySem.Flow → PySem.Shared → Prop) (E : PySem.Value → PySem.Shared → Prop) (s : PySem.Shared) (h : PySem.wpAny M A (PySem.execs [] e) Q E s) : PySem.wpAny M A (PySem.execs [] e) Q E s := by
  w_top off
  first | (walk1; fail) | exact h
end Mine
section
open PySem PySem.W PyProof.Rows PySem.Spec PySem.Calls
set_option linter.unusedVariables false
set_option linter.unusedSimpArgs false
set_option maxRecDepth 100000
set_option maxHeartbeats 2000000
namespace Mine
/-- a law's end where one table of made code may have grown -/
theorem law_post {M : Model} {A : Around} {f : Value} {pos : List Value} {kw : List (Str × Value)} {s s₁ : Shared} {cw : ClaimW} {cl : Str → Option Addr} {mean : ExcName → Option Value} {args : List WData} {c P : Addr} (hT : TabsAt [(c, P)] s₁.heap) (hr : ∀ a x, cw.raises a x = false)
    (hp : cw.post args (.bool true) args = true)
    (h : wpAny M A (PySem.call f pos kw) (fun r s' => r = .bool true ∧ (∀ b o, b ≠ P → s₁.heap.get? b = some o → s'.heap.get? b = some o) ∧ GrownAt P s'.heap ∧ s'.os = s₁.os ∧ AllBare s'.gens) (fun _ _ => False) s) :
    wpAny M A (PySem.call f pos kw) (fun v s' => GoodWG cw cl mean args s₁ (.ok (.ret v)) s') (fun e s' => GoodWG cw cl mean args s₁ (.error e) s') s := by
  obtain ⟨hC, hP⟩ := hT _ (List.mem_singleton.mpr rfl)
  have ht := (hC.tab hP).isCodeTable
  apply wpAny_mono h _ fun _ _ x => x.elim
  rintro _ s' ⟨rfl, hk, ⟨ps, hq⟩, hos, hg⟩
  have old : ∀ b o, s₁.heap.get? b = some o → s'.heap.get? b = some o ∨ b = P ∧ o = tabObj #[] := by
    intro b o e
    by_cases hb : b = P
    · exact .inr ⟨hb, Option.some.inj ((hb ▸ e).symm.trans hP)⟩
    · exact .inl (hk b o hb e)
  refine ⟨.inl ⟨_, .bool true, [], rfl, hr _, .bool _, hp, fun _ => ⟨.nil, nofun⟩⟩, ⟨?_, ?_⟩, hos, hg⟩
  · intro b o e
    rcases old b o e with k | ⟨rfl, rfl⟩
    · exact .inl k
    · exact .inr (.inl ⟨ht, rfl, #[], ps, rfl, Array.empty_append ▸ hq⟩)
  · intro b o e
    rcases old b o e with k | ⟨rfl, rfl⟩
    · exact ⟨o, k⟩
    · exact ⟨_, hq⟩
theorem the_law : PySem.Challenge.rw_in0043_01.Holds := by
  refine hd ?_
  refine PySem.W.holds_open (q := Mine.qv) (loose := Mine.lo) (Xt := Mine.XT) (XP := XL Mine.qv []) (Yf := HK.obs) (Ya := HK.val) (YP := HK.says) (N := 4528) left HK.of HK.keeps (fun s e => xl_of s (Bool.and_eq_true_iff.mp e).1) XL.keeps (by rfl) (by rfl) (by rfl) (fun s e => recFacts_of (Bool.and_eq_true_iff.mp e).2) (by rfl) (row_said well) (by decide +kernel) ⟨rfl, rfl, rfl, rfl, rfl, by decide +kernel⟩ ?hw ?hc
  (case hw => w_witness2)
  intro w s₀ s₁ mg mb G Y fa o pm cd doc dV kV ho hd hcd hD hmg hg args vals as hpre hlay hrd hwl hlo
  have KX := km_in_of Y
  km_tabs Y
  have X := (Ground.X G).1
  have V := (Ground.X G).2
  refine Ground.open G ?_
  intro T B D TE TW
  try (refine guard_noD D (by decide +kernel) ?_; clear D)
  km_lay T hmg ho hd cd
  have hfa : fa = 157 := by
    have h1 := mg_of KX T.g (n := Str.ofString "law") (v := .ref 157) (by kernel_rfl)
    rw [hmg] at h1
    cases h1
    rfl
  subst hfa
  clear hmg
  wrow_args hpre hlay hrd hwl hlo
  rename s₁.heap.IsList _ _ => hSc
  rename ¬ (_ < _) => hlen9
  rename IntsAre _ _ => hI9
  refine law_post hT9 (fun _ _ => rfl) (by with_unfolding_all rfl) ?_
  have KG := ghost_K hT9 KX (by kernel_rfl)
  have TG := ghost_top hT9 T
  have CG := (ghost_code hT9).1
  have SG := ghost_list hT9 hSc
  have GG : Gh (ghostOf s₁.heap [(71, 67)]) s₁.heap #[] := ⟨fun b o e => of_hideAll _ e, hideAll_size _ _, fun b o hb e => ghost_ne e (fun q => hb (by simpa using q)), hideAll_none _ (List.mem_singleton.mpr rfl), (hT9 _ (List.mem_singleton.mpr rfl)).2⟩
  refine wpAny_mono (law_walk w _ _ _ _ _ (1 + claimMargin) 4 _ _ s₁ _ #[] _ KG TG GG (.inl rfl) CG (AllBare.of_eq hg) _ _ _ SG hI9 (by omega) (by decide) (by decide)) (fun r s' hr => ?_) (fun _ _ x => x)
  obtain ⟨hr1, tb', h', tk, g', rfl, _, hb', hk, h67⟩ := hr
  exact ⟨hr1, fun b o hb e => hk b o (ghost_ne e fun q => hb (List.mem_singleton.mp q)), ⟨_, h67⟩, rfl, hb'⟩
end Mine
end
set_option maxRecDepth 100000 in
set_option maxHeartbeats 8000000 in
theorem PySem.Challenge.cw_in0043_01_holds : PySem.Challenge.rw_in0043_01.Holds := by
  exact Mine.the_law
