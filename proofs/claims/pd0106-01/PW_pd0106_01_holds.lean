import PyProof.Rows.All
import Wide.All
import OpenK.AllK
import Wide.FinOn
import Lean
import PySem.Challenge.RW_pd0106_01
set_option Elab.async false
set_option compiler.extract_closed false
namespace Mine

noncomputable section
open PySem PySem.W PyProof.Rows
set_option maxRecDepth 100000
set_option maxHeartbeats 8000000
abbrev P0 : Program := PySem.Challenge.rw_pd0106_01.row.prog
/-- the program but for its marks of files: what the head reads of its top -/
def notMark : Stmt → Bool
  | .Assign .. => false
  | _ => true
def vw : Program := { P0 with main := { P0.main with body := P0.main.body.filter notMark } }
noncomputable section
theorem boot_at (w : World) : ∃ os, fencedOpening treeTable P0 w 2912 = some { heap := boot_heap w.params, gens := #[], drawn := boot_drawn, toks := boot_toks, os := os } := by
  have h := boot_open (p := P0) (N := 2912) (by kernel_rfl) (by decide) (fun s => by kernel_rfl) w
  cases e : fencedOpening treeTable P0 w 2912 with
  | none => rw [e] at h; cases h
  | some s =>
    rw [e] at h
    obtain ⟨hh, gg, dd, tt, os⟩ := s
    simp only [Option.map_some, Option.some.injEq, Prod.mk.injEq] at h
    obtain ⟨rfl, rfl, rfl, rfl⟩ := h
    exact ⟨os, rfl⟩
/-- the run of the top, with the run and the table as letters -/
def topG (run : (String → Option Builtin) → Program → World → Nat → Option Value → Nat → Shared → Thread → Option Shared) (tb : String → Option Builtin) (w : World) (s₀ : Shared) : Option Shared :=
  match s₀.heap.isNs mainGlobals && s₀.gens.size == 0 with
  | true =>
    (run tb P0 w s₀.heap.objs.size (s₀.heap.nsMap mainGlobals (Str.ofString "__annotations__")) 2912 s₀ (topStub P0)).bind fun s₁ =>
      match staticsOk (importedModules P0.main.body) s₀.heap s₁.heap && namesBound P0 s₁.heap && gensDone s₁ && laidKept s₀.heap s₁.heap with
      | true => some s₁
      | false => none
  | false => none
theorem top_g (tb : String → Option Builtin) (w : World) (s₀ : Shared) : topFrom tb P0 w 2912 s₀ = topG topRun tb w s₀ := rfl
theorem top_tw : topG topRun treeTable = topG PySem.W.Fast.tw14082659384304107361 PySem.W.Fast.tw14364793385576792824 := by rw [PySem.W.Fast.te14364793385576792824, PySem.W.Fast.te14082659384304107361]
theorem ends_eq {s₀ : Shared} {w : World} (h : fencedOpening treeTable P0 w 2912 = some s₀) : openEnds treeTable P0 w 2912 = topG PySem.W.Fast.tw14082659384304107361 PySem.W.Fast.tw14364793385576792824 w s₀ :=
  (congrArg (fun o => Option.bind o (topFrom treeTable P0 w 2912)) h).trans ((Option.bind_some s₀ (topFrom treeTable P0 w 2912)).trans ((top_g treeTable w s₀).trans (congrFun (congrFun top_tw w) s₀)))
theorem left_of {α : Type} {Yf : Shared → α} {Ya : World → α} {Xt : Shared → Bool}
    (key : ∀ (w : World) (os : OsState), Option.map (fun s => (PySem.W.Fast.tw4187177175401517315 vw [] (importedModules P0.main.body) Xt true s, Yf s)) (topG PySem.W.Fast.tw14082659384304107361 PySem.W.Fast.tw14364793385576792824 w { heap := boot_heap w.params, gens := #[], drawn := boot_drawn, toks := boot_toks, os := os }) = some (openGood vw [], Ya w)) :
    LeftO P0 vw [] Xt Yf Ya 2912 := fun w => by
  obtain ⟨os, h⟩ := boot_at w
  rw [ends_eq h, PySem.W.Fast.te4187177175401517315]
  exact key w os
end
local macro_rules | `(tactic| o_head $H) => `(tactic| (refine holds_open (q := Mine.vw) (loose := []) (Xt := fun s => xlAt Mine.vw [] s && recOk (RowW.records (OpenRow.toRowW (OpenLaw.row PySem.Challenge.rw_pd0106_01))) s) (XP := XL Mine.vw []) (Yf := Hook.obs $H) (Ya := Hook.val $H) (YP := Hook.says $H) (N := 2912) ?hl (Hook.of $H) (Hook.keeps $H) (fun s e => xl_of s (Bool.and_eq_true_iff.mp e).1) XL.keeps (by rfl) (by rfl) (by rfl) (fun s e => recFacts_of (Bool.and_eq_true_iff.mp e).2) (by rfl) (by first | assumption | decide +kernel) (by decide +kernel) ⟨rfl, rfl, rfl, rfl, rfl, by decide +kernel⟩ ?hw ?hc; (case hl => exact left_of fun w os => by kernel_rfl)))
open_top hd for PySem.Challenge.rw_pd0106_01
end

noncomputable section
open PySem PySem.W PyProof.Rows PySem.Calls
set_option maxRecDepth 100000

theorem fr_stay {h₀ h h' : Heap} {L : Addr} {m : Str → Option Value} (F : Fr h₀ L h m) (st : h.StaysIn h') : Fr h₀ L h' m := by
  obtain ⟨oL, es, ep, hL, r⟩ := F.ns
  exact ⟨⟨oL, es, ep, st _ _ hL, r⟩, fun b o e => st _ _ (F.keep b o e), F.above⟩
theorem news_stay {h₀ h h' : Heap} {L : Addr} {news : List (Addr × Obj)} (N : News h₀ L h news) (st : h.StaysIn h') : News h₀ L h' news :=
  fun p hp => ⟨st _ _ (N p hp).1, (N p hp).2⟩
theorem news_more {h₀ h h' : Heap} {L : Addr} {m : Str → Option Value} {news : List (Addr × Obj)} (F : Fr h₀ L h m) (N : News h₀ L h news) (st : h.StaysIn h') {a : Addr} {o : Obj} (hn : h.get? a = none) (ho : h'.get? a = some o) : News h₀ L h' ((a, o) :: news) := by
  intro p hp
  rcases List.mem_cons.mp hp with rfl | hp
  · refine ⟨ho, ?_, ?_⟩
    · obtain ⟨oL, es, ep, hL, r⟩ := F.ns
      intro e
      dsimp only at e
      rw [← e, hn] at hL
      cases hL
    · cases q : h₀.get? a with
      | none => rfl
      | some o' => rw [F.keep _ _ q] at hn; cases hn
  · exact news_stay N st p hp
/-- a call of a def that leaves all that stood as it stood -/
theorem code_pure {prog : Program} {w : World} {A₀ A : Around} {s : Shared} {base h₀ : Heap} {outer : List Env} {L : Addr} {m : Str → Option Value} {env : Env} {K : Frag} {p : Program} {loose : List Str} {mean : ExcName → Option Value} {mg mb : Str → Option Value}
    {R : Result → Shared → Prop} {name qual : Str} {params : Arguments} {body : List Stmt} {scope : Scope} {dV kV doc pm cdv ct oc : Value} {an od : Option Addr} {osl : Array (Option Value)} {f : Addr} {args : Args} {binds : List (Str × Value)}
    (B : Below A₀ base outer h₀) (F : Fr h₀ L s.heap m) (X₀ : K.In h₀) (T : Top p loose mean mg mb h₀) (hA : A.frames = some (env :: outer)) (hf : env.frame = some L) (hke : env.scope.kind = .function)
    (ho : K.lookup f = some ⟨oc, od, .func (fnOf name qual params body scope dV kV doc pm an cdv ct), osl⟩) (hcd : codeIn K cdv qual = true) (hroom : A.depth < recursionLimit)
    (hbind : BindsTo s (fnOf name qual params body scope dV kV doc pm an cdv ct) args binds) (hloc : ∀ y ∈ binds, scope.names.lookup y.1 = some .local)
    (h : ∀ L' h₁, Fr s.heap L' h₁ (fun y => binds.reverse.lookup y) → News s.heap L' h₁ [] → Below A base (env :: outer) s.heap → K.In s.heap → Top p loose mean mg mb s.heap →
      wpAny (model prog w) (A.deeper (envOf qual scope L' f cdv)) (execs body (envOf qual scope L' f cdv))
        (fun fl s' => R (.ok (.ret (match fl with | .ret v => v | _ => .none))) s')
        (fun e s' => wpAny (model prog w) (A.deeper (envOf qual scope L' f cdv)) (leaving (envOf qual scope L' f cdv) e) (fun _ s'' => R (.error e) s'') (fun e' s'' => R (.error e') s'') s')
        { s with heap := h₁, toks := s.toks + binds.length })
    (hco : scope.isCoroutine = false) (hgen : scope.isGenerator = false) (hk : scope.kind = .function)
    (hcell : ∀ x ∈ scope.names, x.2 ≠ .cell) : codeAny (model prog w) A (.call (.ref f) args) R s := by
  have X := X₀.keeps F.keep
  have TT := T.keeps F.keep
  refine codeAny_call_def (fd := fnOf name qual params body scope dV kV doc pm an cdv ct) (body := body) (binds := binds) hroom (X _ _ ho) rfl (T.nolimit.keeps F.keep) (codeRec_of X hcd) rfl hbind hcell hloc (fun h₁ hns hk₁ => ?_) hco hgen hk
  have B₁ := pushX B F hf hke
  exact h s.heap.objs.size h₁ ⟨hns, hk₁, Nat.le_refl _⟩ News.nil ⟨hA, B₁.stays, B₁.frames⟩ X TT
abbrev PG : Program := PySem.Challenge.rw_pd0106_01.row.prog
def Ctr (w : World) (f : Addr) (dep : Nat) (pre : Heap → Prop) (vs : List Value) (post : Heap → Heap → Value → Prop) : Prop :=
  ∀ (mean : ExcName → Option Value) (mg mb : Str → Option Value) (dp un : Nat) (gd : Option (List Code)) (cn : Str) (cs : Scope) (a : Addr) (ccd : Value) (cl : List (Str × Addr)) (outer : List Env) (A₀ : Around) (base h₀ : Heap) (L : Addr) (m : Str → Option Value) (s : Shared) (Q E : Value → Shared → Prop),
    Below A₀ base outer h₀ → Fr h₀ L s.heap m → (hd.heap_39 w.params).In h₀ → Top vw (looseW vw []) mean mg mb h₀ → cs.kind = .function → dp + dep < recursionLimit → un + 8 * dep < cLine → pre s.heap →
    (∀ v h' tk', s.heap.StaysIn h' → post s.heap h' v → Q v { s with heap := h', toks := tk' }) →
    wpAny (model PySem.Challenge.rw_pd0106_01.row.prog w) (ktrTop dp un gd cn cs L a ccd cl outer) (call (.ref f) vs) Q E s
end

noncomputable section
open PySem PySem.W PyProof.Rows PySem.Calls
set_option maxRecDepth 100000
set_option maxHeartbeats 8000000
section
variable {prog : Program} {w : World} {A : Around} {E : Value → Shared → Prop} {s : Shared}
theorem sub_str_str : isSubtype (.type "str") (.type "str") = pure true := by rw [isSubtype_type]; kernel_rfl
theorem ty_str : typeOf (.type "str") = pure (.type "type") := by kernel_rfl
theorem isc_str_nested {k : Value} {dep : Int} {tk : Tok} {Q : Fin → Shared → Prop} (hk : k = .int dep tk) (hq : Q (.done (.ret (.bool true))) s) :
    wpAny (model prog w) A (Builtin.«issubclass.nested» ⟨[.type "str", .type "str", k], []⟩) Q E s := by
  subst hk
  have h1 := sub_str_str
  have h2 := ty_str
  repeat (any_goals (first | assumption | wp_step))
theorem isc_args (a b c : Value) : argsOk "issubclass.nested" ⟨[a, b, c], []⟩ := by unfold argsOk; kernel_rfl
theorem isc_call {k : Int} {Q : Value → Shared → Prop} (hq : Q (.bool true) s) : wpAny (model prog w) A (call (.builtin "issubclass.nested") [.type "str", .type "str", rawInt k]) Q E s :=
  call_function_meets (id := "issubclass.nested") (B := Builtin.«issubclass.nested») (S := fun _ R s => R (.ok (.ret (.bool true))) s) (by decide +kernel) (by decide +kernel) F.entry_issubclass_nested (isc_args _ _ _) (fun _ _ _ _ _ hs => isc_str_nested rfl hs) hq
theorem isc_tup_nested {k : Value} {tk : Tok} {D : Addr} {n : Nat} {Q : Fin → Shared → Prop} (hk : k = .int 0 tk) (hD : s.heap.get? D = some { cls := .type "tuple", data := .seq #[.type "str", .type "bytes"] n }) (hq : ∀ tk, Q (.done (.ret (.bool true))) { s with toks := tk }) :
    wpAny (model prog w) A (Builtin.«issubclass.nested» ⟨[.type "str", .ref D, k], []⟩) Q E s := by
  subst hk
  have hT2 : s.TypeIs (.ref D) "tuple" := ⟨_, hD, rfl⟩
  have f1 := F.isi_sub_tuple
  repeat (any_goals (first | assumption | ((with_reducible show wpAny _ _ (call (Value.builtin "issubclass.nested") _) _ _ _); refine isc_call ?_) | wp_step))
  exact hq _
theorem issub_str {D : Addr} {n : Nat} {Q : Value → Shared → Prop} (hD : s.heap.get? D = some { cls := .type "tuple", data := .seq #[.type "str", .type "bytes"] n }) (hq : ∀ tk, Q (.bool true) { s with toks := tk }) :
    wpAny (model prog w) A (call (.builtin "issubclass") [.type "str", .ref D]) Q E s :=
  call_issubclass (S := fun _ R s => s.heap.get? D = some { cls := .type "tuple", data := .seq #[.type "str", .type "bytes"] n } ∧ ∀ tk, R (.ok (.ret (.bool true))) { s with toks := tk }) (fun _ _ _ _ _ hs => issubclass_outer (isc_tup_nested rfl hs.1 hs.2)) ⟨hD, hq⟩
end
end

noncomputable section
open PySem PySem.W PyProof.Rows PySem.Calls
set_option maxRecDepth 100000
theorem ctr_use {w : World} {f : Addr} {dep : Nat} {pre : Heap → Prop} {vs : List Value} {post : Heap → Heap → Value → Prop} (C : Ctr w f dep pre vs post)
    {mean : ExcName → Option Value} {mg mb : Str → Option Value} {dp un : Nat} {gd : Option (List Code)} {cn : Str} {cs : Scope} {a : Addr} {ccd : Value} {cl : List (Str × Addr)} {outer : List Env} {A₀ : Around} {base h₀ : Heap} {L : Addr} {m : Str → Option Value} {news : List (Addr × Obj)} {s : Shared} {Q E : Value → Shared → Prop}
    (B : Below A₀ base outer h₀) (F : Fr h₀ L s.heap m) (X : (hd.heap_39 w.params).In h₀) (N : News h₀ L s.heap news) (T : Top vw (looseW vw []) mean mg mb h₀) (hk : cs.kind = .function) (hd : dp + dep < recursionLimit) (hu : un + 8 * dep < cLine) (hp : pre s.heap)
    (h : ∀ v h' tk', Fr h₀ L h' m → News h₀ L h' news → s.heap.StaysIn h' → post s.heap h' v → Q v { s with heap := h', toks := tk' }) :
    wpAny (model PySem.Challenge.rw_pd0106_01.row.prog w) (ktrTop dp un gd cn cs L a ccd cl outer) (call (.ref f) vs) Q E s :=
  C _ _ _ _ _ _ _ _ _ _ _ _ _ _ _ _ _ _ _ _ B F X T hk hd hu hp fun v h' tk' st hq => h v h' tk' (fr_stay F st) (news_stay N st) st hq
theorem peek1_wp {α : Type} {K : Frag} {M : Model} {A : Around} {E : Value → Shared → Prop} {Q : α → Shared → Prop} {s : Shared} {o : Obj} {r : Addr → α} (X : K.In s.heap)
    (q : Q (r s.heap.objs.size) { s with heap := s.heap.push o }) :
    ∀ (t : Sem α) (g : Addr → Option α), peek1 K ⟨M.prog, M.w.params⟩ t = some (o, g) → (∀ D, g D = some (r D)) → wpAny M A t Q E s := by
  intro t
  induction t with
  | rule _ k ih => exact fun g e hg Γ p hΓ => ih () g e hg Γ p hΓ
  | point _ k ih => exact fun g e hg Γ p hΓ => ih () g e hg Γ p hΓ
  | ask k ih => exact fun g e hg Γ p hΓ => ih _ g e hg Γ p hΓ
  | load a _ k ih =>
    intro g e hg Γ p hΓ
    simp only [peek1] at e
    split at e
    · rename_i ob ho
      exact ⟨ob, X _ _ ho, ih ob g e hg Γ p hΓ⟩
    · cases e
  | alloc ob k _ =>
    intro g e hg
    have e' : some (ob, fun D => peek K ⟨M.prog, M.w.params⟩ (k D)) = some (o, g) := e
    obtain ⟨e1, e2⟩ := Prod.mk.inj (Option.some.inj e')
    subst e1
    subst e2
    show wpAny M A (alloc ob >>= k) Q E s
    refine wpAny_bind (wpAny_alloc ?_)
    exact (Looks.of_peek (M := M) (h := s.heap.push ob) (X.keeps fun b x hb => Heap.get?_push_of_some _ hb) (hg s.heap.objs.size)).here (s := { s with heap := s.heap.push ob }) q
  | _ => intro g e; cases e
/-- the same for a def with a star parameter -/
theorem code_pureR {prog : Program} {w : World} {A₀ A : Around} {s : Shared} {base h₀ : Heap} {outer : List Env} {L : Addr} {m : Str → Option Value} {env : Env} {K : Frag} {p : Program} {loose : List Str} {mean : ExcName → Option Value} {mg mb : Str → Option Value}
    {R : Result → Shared → Prop} {name qual : Str} {params : Arguments} {body : List Stmt} {scope : Scope} {dV kV doc pm cdv ct oc : Value} {an od : Option Addr} {osl : Array (Option Value)} {f : Addr} {args : Args} {vs : List Value} {g₁ : Addr → Option (List (Str × Value))} {binds : Addr → List (Str × Value)}
    (B : Below A₀ base outer h₀) (F : Fr h₀ L s.heap m) (X₀ : K.In h₀) (T : Top p loose mean mg mb h₀) (hA : A.frames = some (env :: outer)) (hf : env.frame = some L) (hke : env.scope.kind = .function)
    (ho : K.lookup f = some ⟨oc, od, .func (fnOf name qual params body scope dV kV doc pm an cdv ct), osl⟩) (hcd : codeIn K cdv qual = true) (hroom : A.depth < recursionLimit)
    (hp : peek1 K ⟨prog, w.params⟩ (bindArgs (fnOf name qual params body scope dV kV doc pm an cdv ct) args) = some (({ cls := .type "tuple", data := .seq vs.toArray } : Obj), g₁))
    (hg : ∀ D, g₁ D = some (binds D)) (hloc : ∀ D, ∀ y ∈ binds D, scope.names.lookup y.1 = some .local)
    (h : ∀ D L' h₁, Fr s.heap L' h₁ (fun y => (binds D).reverse.lookup y) → News s.heap L' h₁ [(D, ({ cls := .type "tuple", data := .seq vs.toArray } : Obj))] → Below A base (env :: outer) s.heap → K.In s.heap → Top p loose mean mg mb s.heap →
      wpAny (model prog w) (A.deeper (envOf qual scope L' f cdv)) (execs body (envOf qual scope L' f cdv))
        (fun fl s' => R (.ok (.ret (match fl with | .ret v => v | _ => .none))) s')
        (fun e s' => wpAny (model prog w) (A.deeper (envOf qual scope L' f cdv)) (leaving (envOf qual scope L' f cdv) e) (fun _ s'' => R (.error e) s'') (fun e' s'' => R (.error e') s'') s')
        { s with heap := h₁, toks := s.toks + (binds D).length })
    (hco : scope.isCoroutine = false) (hgen : scope.isGenerator = false) (hk : scope.kind = .function)
    (hcell : ∀ x ∈ scope.names, x.2 ≠ .cell) : codeAny (model prog w) A (.call (.ref f) args) R s := by
  have X := X₀.keeps F.keep
  have TT := T.keeps F.keep
  refine codeAny_call_function (fd := fnOf name qual params body scope dV kV doc pm an cdv ct) (body := body) hroom (X _ _ ho) rfl hco hgen rfl (codeRec_of X hcd) ?_
  refine peek1_wp (o := ({ cls := .type "tuple", data := .seq vs.toArray } : Obj)) X (r := binds) ?_ _ g₁ hp hg
  have B₁ := pushX B F hf hke
  have hpush : ∀ b o, s.heap.get? b = some o → (s.heap.push ({ cls := .type "tuple", data := .seq vs.toArray } : Obj)).get? b = some o := fun b o e => Heap.get?_push_of_some _ e
  refine wpAny_newFunctionEnv hcell (hloc _) (fun h₁ hns hsb => ⟨((T.nolimit.keeps F.keep).keeps hpush).fresh _ hsb, codeAny_func ?_⟩) hk
  have hk₁ : ∀ b o, (s.heap.push ({ cls := .type "tuple", data := .seq vs.toArray } : Obj)).get? b = some o → h₁.get? b = some o := fun b o e => hsb.extBut b o (Nat.ne_of_lt (Heap.lt_size e)) (Heap.get?_push_of_some _ e)
  have hsz : (s.heap.push ({ cls := .type "tuple", data := .seq vs.toArray } : Obj)).objs.size = s.heap.objs.size + 1 := Heap.size_push _ _
  refine h s.heap.objs.size _ h₁ ⟨hns, fun b o e => hk₁ b o (hpush b o e), ?_⟩ ?_ ⟨hA, B₁.stays, B₁.frames⟩ X TT
  · show s.heap.objs.size ≤ (s.heap.push ({ cls := .type "tuple", data := .seq vs.toArray } : Obj)).objs.size
    omega
  · intro q hq
    rw [List.mem_singleton.mp hq]
    refine ⟨hk₁ _ _ (Heap.get?_push_size _ rfl), ?_, Heap.get?_none_of_le (Nat.le_refl _)⟩
    show s.heap.objs.size ≠ (s.heap.push ({ cls := .type "tuple", data := .seq vs.toArray } : Obj)).objs.size
    omega
end

section
open PySem PySem.W PyProof.Rows PySem.Calls
local macro_rules | `(tactic| k_room) => `(tactic| ktr_room)
local macro_rules | `(tactic| walk_at "p_enter") => `(tactic| (refine wpAny_call ?_; k_dflt (refine' code_pure ?k1 ?k2 ?k3 ?k5 ?kA ?kF ?kK ?k6 ?k7 ?k8 ?k9 ?kB ?_ ?c2 ?c3 ?c4 ?c5; (case kA => exact rfl); (case kF => exact rfl); (case kK => assumption); (case k1 => k_asm); (case k2 => k_asm); (case k3 => k_asm); (case k5 => k_asm); (case k6 => k_is); (case k7 => k_is); (case k8 => ktr_room); (case k9 => exact BindsTo.of_eq rfl); (case c5 => decide); (case kB => exact locs rfl); (case c2 => exact rfl); (case c3 => exact rfl); (case c4 => exact rfl); k_whole; intro L' h' F' N' B' X' T'; (try dsimp only); (try k_fold))))
noncomputable section
open PySem PySem.W PyProof.Rows PySem.Calls
set_option maxRecDepth 100000
set_option maxHeartbeats 8000000
local macro_rules | `(tactic| walk_at "call builtin:issubclass") => `(tactic| (k_here; k_dflt (refine issub_str (News.get (by k_asm) (by k_mem)) ?_); intro tk9))
example : (fun (_ : OpenLaw) (_ : Params → Frag) => True) PySem.Challenge.rw_pd0106_01 hd.heap_39 := by
  w_top off
  k_with_none
  k_fill
  trivial
theorem fspath_c (w : World) (x : Str) (t : Tok) : Ctr w 94 1 (fun _ => True) [.str x t] (fun _ _ v => v = .str x t) := by
  intro mean mg mb dp un gd cn cs a ccd cl outer A₀ base h₀ L m s Q E B F X T hk hd hu _ hret
  walk_at "p_enter"
  k_steps
  exact hret _ _ _ (Fr.keep (by k_asm)) rfl
theorem get_sep_c (w : World) (x : Str) (t : Tok) : Ctr w 108 1 (fun _ => True) [.str x t] (fun _ _ v => ∃ t', v = .str (Str.ofString "/") t') := by
  intro mean mg mb dp un gd cn cs a ccd cl outer A₀ base h₀ L m s Q E B F X T hk hd hu _ hret
  walk_at "p_enter"
  k_steps
  exact hret _ _ _ (Fr.keep (by k_asm)) ⟨_, rfl⟩
end

local macro_rules | `(tactic| walk_at "call ref") => `(tactic| (k_here; k_dflt (refine' ctr_use (fspath_c _ _ _) ?k1 ?k2 ?k3 ?k4 ?k5 ?kK ?kd ?ku ?kp ?_; (case k1 => k_asm); (case k2 => k_asm); (case k3 => k_asm); (case k4 => k_asm); (case k5 => k_asm); (case kK => first | exact rfl | assumption); (case kd => ktr_room); (case ku => ktr_units); (case kp => trivial); intro v9 h' tk9 F' N' st9 e9; subst e9; (try clear st9); (try dsimp only); (try k_sweep))))
noncomputable section
open PySem PySem.W PyProof.Rows PySem.Calls
set_option maxRecDepth 100000
set_option maxHeartbeats 8000000
local macro_rules | `(tactic| walk_at "p_enterR") => `(tactic| (refine wpAny_call ?_; k_dflt (refine' code_pureR ?k1 ?k2 ?k3 ?k5 ?kA ?kF ?kK ?k6 ?k7 ?k8 ?kP ?kG ?kB ?_ ?c2 ?c3 ?c4 ?c5; (case kA => exact rfl); (case kF => exact rfl); (case kK => assumption); (case k1 => k_asm); (case k2 => k_asm); (case k3 => k_asm); (case k5 => k_asm); (case k6 => k_is); (case k7 => k_is); (case k8 => ktr_room); (case kP => exact rfl); (case kG => exact fun _ => rfl); (case kB => exact fun _ => locs rfl); (case c5 => decide); (case c2 => exact rfl); (case c3 => exact rfl); (case c4 => exact rfl); k_whole; intro D' L' h' F' N' B' X' T'; (try dsimp only); (try k_fold))))
local macro_rules | `(tactic| walk_at "call ref") => `(tactic| (k_here; k_dflt (refine' ctr_use (get_sep_c _ _ _) ?k1 ?k2 ?k3 ?k4 ?k5 ?kK ?kd ?ku ?kp ?_; (case k1 => k_asm); (case k2 => k_asm); (case k3 => k_asm); (case k4 => k_asm); (case k5 => k_asm); (case kK => first | exact rfl | assumption); (case kd => ktr_room); (case ku => ktr_units); (case kp => trivial); intro v9 h' tk9 F' N' st9 e9; obtain ⟨t9, e9⟩ := e9; subst e9; (try clear st9); (try dsimp only); (try k_sweep))))
example : (fun (_ : OpenLaw) (_ : Params → Frag) => True) PySem.Challenge.rw_pd0106_01 hd.heap_39 := by
  w_top off
  k_with_none
  k_fill
  trivial
def joinF (x y : Str) : Str := if Txt.startswith y (Str.ofString "/") = true then y else if Txt.endswith x (Str.ofString "/") = true then x ++ y else x ++ (Str.ofString "/" ++ y)
theorem join_c (w : World) (x y : Str) (t u : Tok) (hx : x.length ≤ 1000) (hy : y.length ≤ 1000) (hx0 : 0 < x.length) : Ctr w 115 2 (fun _ => True) [.str x t, .str y u] (fun _ _ v => ∃ t', v = .str (joinF x y) t') := by
  intro mean mg mb dp un gd cn cs a ccd cl outer A₀ base h₀ L m s Q E B F X T hk hd hu _ hret
  walk_at "p_enterR"
  k_steps
  · exact hret _ _ _ (Fr.keep (by k_asm)) ⟨_, by simp only [joinF, *]; rfl⟩
  · exact hret _ _ _ (Fr.keep (by k_asm)) ⟨_, by simp only [joinF, *]; rfl⟩
  · exact hret _ _ _ (Fr.keep (by k_asm)) ⟨_, by simp only [joinF, *]; rfl⟩
  · exfalso
    omega
end

noncomputable section
open PySem PySem.W PyProof.Rows PySem.Calls
set_option maxRecDepth 100000
set_option maxHeartbeats 8000000
example : (fun (_ : OpenLaw) (_ : Params → Frag) => True) PySem.Challenge.rw_pd0106_01 hd.heap_39 := by
  w_top off
  k_with_none
  k_fill
  trivial
abbrev tupOf (vs : List Value) (n : Nat) : Obj := { cls := .type "tuple", data := .seq vs.toArray n }
theorem splitroot_c (w : World) (x : Str) (t : Tok) (hx : x.length ≤ 1000) (h1 : (Txt.slice x none (some 1) != Str.ofString "/") = false) (h2 : (Txt.slice x (some 1) (some 2) != Str.ofString "/") = true) :
    Ctr w 122 2 (fun _ => True) [.str x t] (fun h h' v => ∃ a n t1 t2 t3, v = .ref a ∧ h.get? a = none ∧ h'.get? a = some (tupOf [.str (Str.ofString "") t1, .str (Str.ofString "/") t2, .str (Txt.slice x (some 1) none) t3] n)) := by
  intro mean mg mb dp un gd cn cs a ccd cl outer A₀ base h₀ L m s Q E B F X T hk hd hu _ hret
  walk_at "p_enter"
  k_steps
  exact hret _ _ _ (Fr.keep (by k_asm)) ⟨_, _, _, _, _, rfl, News.fresh (by k_asm) (by k_mem), News.get (by k_asm) (by k_mem)⟩
end

noncomputable section
open PySem PySem.W PyProof.Rows PySem.Calls PySem.Spec
set_option maxRecDepth 100000
section
variable {prog : Program} {w : World} {A : Around} {E : Value → Shared → Prop} {s : Shared} {env : Env} {h₀ : Heap} {x : Str} {body : List Stmt} {Q : Flow → Shared → Prop}

/-- what a turn hands on: the state's letter c', its ledger, its names -/
def TurnEnd {σ : Type} (h₀ : Heap) (L : Addr) (Led : σ → List (Addr × Obj)) (ps : σ → List (Str × Value)) (stored : List Str) (m₀ : Str → Option Value) (x : Str) (I : Addr) (oI : Obj) (P : σ → Prop) (s s₂ : Shared) : Prop :=
  ∃ (c' : σ) (h' : Heap) (tk' : Nat) (m' : Str → Option Value) (news' : List (Addr × Obj)), s₂ = { s with heap := h', toks := tk' } ∧ Fr h₀ L h' m' ∧ News h₀ L h' news' ∧ (∀ p ∈ Led c', p ∈ news') ∧ (I, oI) ∈ news' ∧ (∀ p ∈ Led c', p.1 ≠ I) ∧ P c' ∧
    (∀ p ∈ ps c', m' p.1 = some p.2) ∧ ∀ z, z ≠ x → (∀ p ∈ ps c', z ≠ p.1) → stored.contains z = false → m' z = m₀ z
def TurnPost {σ : Type} (h₀ : Heap) (L : Addr) (Led : σ → List (Addr × Obj)) (ps : σ → List (Str × Value)) (stored : List Str) (m₀ : Str → Option Value) (x : Str) (I : Addr) (oI : Obj) (P : σ → Prop) (s : Shared) (Q : Flow → Shared → Prop) (f : Flow) (s₂ : Shared) : Prop :=
  match f with
  | .ret v => Q (.ret v) s₂
  | .brk => Q .next s₂
  | _ => TurnEnd h₀ L Led ps stored m₀ x I oI P s s₂
theorem iter_led {σ : Type} {l : Addr} {vs : List Value} {n₀ : Nat} {m₀ : Str → Option Value} {news : List (Addr × Obj)} (Led : σ → List (Addr × Obj)) (ps : σ → List (Str × Value)) (stored : List Str) (P : Nat → σ → Prop) (c₀ : σ)
    (hh : A.handled = none) (F : Fr h₀ env.locals s.heap m₀) (N : News h₀ env.locals s.heap news) (hsub : ∀ p ∈ Led c₀, p ∈ news)
    (hl : h₀.IsList l vs.toArray ∨ ∀ c, (l, listOf vs.toArray n₀) ∈ Led c)
    (hk : ∀ p ∈ ps c₀, m₀ p.1 = some p.2) (hp : P 0 c₀)
    (turn : ∀ (i : Nat) (c : σ) (v : Value) (u : Str → Option Value) (h : Heap) (tk : Nat) (I : Addr) (oI : Obj), vs[i]? = some v → P i c → (∀ p ∈ Led c, p.1 ≠ I) →
      Fr h₀ env.locals h (fun y => if y = x then some v else kstB (fun z => if stored.contains z then u z else m₀ z) (ps c) y) → News h₀ env.locals h (Led c ++ [(I, oI)]) →
      wpAny (model prog w) A (execs body env) (TurnPost h₀ env.locals Led ps stored m₀ x I oI (P (i + 1)) s Q) E { s with heap := h, toks := tk })
    (done : ∀ (c : σ) (u : Str → Option Value) (h : Heap) (tk : Nat), P vs.length c → Fr h₀ env.locals h (fun y => if y = x then u y else kstB (fun z => if stored.contains z then u z else m₀ z) (ps c) y) → News h₀ env.locals h (Led c) → Q .next { s with heap := h, toks := tk }) :
    wpAny (model prog w) A (pyIter (.ref l)) (fun it s₂ => LoopAtV prog w A h₀ env x body Q E it s₂) E s := by
  have hls : s.heap.IsList l vs.toArray := by
    rcases hl with hl | hl
    · exact hl.at fun o e => F.keep l o e
    · exact ⟨_, (N _ (hsub _ (hl c₀))).1, rfl, n₀, rfl⟩
  obtain ⟨ol, hol, holc, nn, hold⟩ := id hls
  have hne : l ≠ s.heap.objs.size := Nat.ne_of_lt (Heap.lt_size hol)
  have hlL : env.locals ≠ l := by
    rcases hl with hl | hl
    · obtain ⟨o', ho', _⟩ := hl
      exact Nat.ne_of_gt (Nat.lt_of_lt_of_le (Heap.lt_size ho') F.above)
    · exact fun e => (N _ (hsub _ (hl c₀))).2.1 e.symm
  refine wpAny_pyIter_list hls ?_
  have W := Walks.list (prog := prog) (w := w) hh s.heap.objs.size l hne vs.toArray
  rw [List.size_toArray] at W
  refine ⟨_, _, _, vs.length, _, _, m₀, Led c₀, fun i m nx => ∃ c, nx = Led c ∧ P i c ∧ (∀ p ∈ ps c, m p.1 = some p.2) ∧ ∀ z, z ≠ x → (∀ p ∈ ps c, z ≠ p.1) → stored.contains z = false → m z = m₀ z, rfl, W, ?_, ?_, ?_, ⟨⟨_, Heap.get?_push_size _ rfl, rfl, rfl⟩, hls.at fun o e => Heap.get?_push_of_some _ e⟩, F.push _, (fun p hp => ⟨Heap.get?_push_of_some _ (N p (hsub p hp)).1, (N p (hsub p hp)).2⟩), ⟨c₀, rfl, hp, hk, fun _ _ _ _ => rfl⟩, ?_, ?_⟩
  · intro hm
    rcases List.mem_cons.mp hm with e | hm
    · exact absurd F.ns.lt (e ▸ Nat.lt_irrefl _)
    · exact hlL (List.mem_singleton.mp hm)
  · intro b hb
    rw [List.mem_singleton.mp hb]
    exact next_is_new F
  · intro p hp hI
    exact absurd (Heap.lt_size (N p (hsub p hp)).1) ((List.mem_singleton.mp hI) ▸ Nat.lt_irrefl _)
  · rintro i v m₁ news₁ s₁ own ⟨hh', tk', rfl⟩ hin hP ⟨c, rfl, hPc, h1, h2⟩ hoff hown hat hfp hst F₁ N₁
    have hI0 : h₀.get? s.heap.objs.size = none := next_is_new F
    obtain ⟨⟨oI, hoI, _⟩, _⟩ := id hst
    have hIown : (s.heap.objs.size, oI) ∈ own := hfp _ (List.mem_cons.mpr (.inl rfl)) hI0 _ hoI
    have N₂ : News h₀ env.locals hh' (Led c ++ [(s.heap.objs.size, oI)]) := fun p hp => N₁ p ((List.mem_append.mp hp).elim (fun h => List.mem_append.mpr (.inr h)) fun h => List.mem_append.mpr (.inl (List.mem_singleton.mp h ▸ hIown)))
    refine wpAny_mono (turn i c v m₁ hh' tk' s.heap.objs.size oI (by simpa using hP) hPc (fun p hp hq => hoff p hp (List.mem_singleton.mpr hq)) (kst_fr h1 h2 F₁) N₂) (fun f s₂ p => ?_) fun _ _ e => e
    have fin : TurnEnd h₀ env.locals Led ps stored m₀ x s.heap.objs.size oI (P (i + 1)) s s₂ → LoopStepU h₀ env.locals [s.heap.objs.size] own (fun m nx => ∃ c, nx = Led c ∧ P (i + 1) c ∧ (∀ p ∈ ps c, m p.1 = some p.2) ∧ ∀ z, z ≠ x → (∀ p ∈ ps c, z ≠ p.1) → stored.contains z = false → m z = m₀ z) { s with heap := hh', toks := tk' } .next s₂ := by
      rintro ⟨c', h', tk, m', news', e, F', N', hn, ho, ha, hm, g1, g2⟩
      refine ⟨rfl, h', tk, m', Led c', e, F', fun p hp => ?_, fun p hp hq => ha p hp (List.mem_singleton.mp hq), c', rfl, hm, g1, g2⟩
      rcases List.mem_append.mp hp with hp | hp
      · rcases List.mem_cons.mp (hown p hp) with q | q
        · have e2 := hat p hp
          rw [q, hoI] at e2
          have : p = (s.heap.objs.size, oI) := Prod.ext q (Option.some.inj e2).symm
          rw [this]
          exact N' _ ho
        · have q := List.mem_singleton.mp q
          rcases hl with hl | hl
          · obtain ⟨o', ho', _⟩ := hl
            have z := (N₁ p (List.mem_append.mpr (.inl hp))).2.2
            rw [q, ho'] at z
            cases z
          · have e2 := hat p hp
            have e3 := (N₁ _ (List.mem_append.mpr (.inr (hl c)))).1
            rw [q, e3] at e2
            have : p = (l, listOf vs.toArray n₀) := Prod.ext q (Option.some.inj e2).symm
            rw [this]
            exact N' _ (hn _ (hl c'))
      · exact N' _ (hn _ hp)
    cases f with
    | ret v => exact .ret p
    | brk => exact .brk p
    | next => exact .next (fin p)
    | cont => exact .cont (fin p)
  · rintro h' tk m' news' F' N' _ ⟨c, rfl, hPc, h1, h2⟩
    exact done c m' h' tk hPc (kst_frOut h1 h2 F') N'
end
end

noncomputable section
open PySem PySem.W PyProof.Rows PySem.Calls PySem.Spec
set_option maxRecDepth 100000
/-- the walk stops where this stands -/
structure Hold (P : Prop) : Prop where
  out : P
theorem hold_here {P : Prop} (h : Hold P) : P := h.out
section
variable {prog : Program} {w : World} {A : Around} {E : Value → Shared → Prop} {s : Shared} {h₀ : Heap} {L D : Addr} {m : Str → Option Value} {news news' : List (Addr × Obj)} {vs : List Value} {n : Nat} {v : Value}

theorem l_truthy {Q : Bool → Shared → Prop} (N : News h₀ L s.heap news) (hm : (D, listOf vs.toArray n) ∈ news) (hz : vs.length ≤ 100000) (b : Bool) (hb : (!vs.isEmpty) = b) (h : ∀ tk, Q b { s with toks := tk }) :
    wpAny (model prog w) A (truthy (.ref D)) Q E s := by
  have hl : s.heap.IsList D vs.toArray := ⟨_, (N _ hm).1, rfl, n, rfl⟩
  refine wpAny_truthy_list hl (by rw [List.size_toArray]; omega) ?_
  subst hb
  have e : (!vs.toArray.isEmpty) = (!vs.isEmpty) := by simp
  rw [e]
  exact h _
theorem l_last {value slice : Expr} {u : Tok} {Q : Value → Shared → Prop} (N : News h₀ L s.heap news) (hm : (D, listOf (vs ++ [v]).toArray n) ∈ news) (h : Q v s)
    (hs : subscripted slice false (.ref D) (.int (-1) u) = operate [.ref D, .int (-1) u] (getItem (.ref D) (.int (-1) u)) := by with_unfolding_all rfl) (hg : ∀ r, letTemporaryGo value (.ref D) r = pure () := by intro _; with_unfolding_all rfl) :
    wpAny (model prog w) A (subscriptTail value slice (.ref D) (.int (-1) u)) Q E s := by
  refine kim_back N hm rfl rfl (by decide) (by simp; omega) (by decide) ?_ h hs hg
  have e : ((-1 : Int) + ((vs ++ [v]).length : Int)).toNat = vs.length := by simp; omega
  rw [e]
  simp
theorem l_pop {Q : Value → Shared → Prop} (F : Fr h₀ L s.heap m) (N : News h₀ L s.heap news) (U : Upd D (listOf (vs ++ [v]).toArray n) (listOf vs.toArray (n + 1)) news news') (hz : vs.length ≤ 100000)
    (h : ∀ h', Fr h₀ L h' m → News h₀ L h' news' → Q v { s with heap := h' }) : wpAny (model prog w) A (call (.builtin "list.pop") [.ref D]) Q E s := by
  have e : ∀ vs : List Value, kl_last (vs ++ [v]) = some (vs, v) := by
    intro vs
    induction vs with
    | nil => rfl
    | cons a r ih => rw [List.cons_append, kl_last, ih]
  exact kl_pop F N (by simpa using e vs) U (by simp [sizeLine_eq]; omega) h
theorem l_join {x : Str} {t : Tok} {c : List (Str × Tok)} {Q : Value → Shared → Prop} (N : News h₀ L s.heap news) (hm : (D, listOf (strValues c).toArray n) ∈ news) (hx : x.length ≤ 10) (hc : c.length ≤ 2000) (hb : ∀ p ∈ c, p.1.length ≤ 1000)
    (h : ∀ t' k, (Txt.join x (c.map (·.1))).length ≤ 2100000 → Q (.str (Txt.join x (c.map (·.1))) t') { s with toks := k }) : wpAny (model prog w) A (call (.builtin "str.join") [.str x t, .ref D]) Q E s := by
  have hi : StrsAre (strValues c) (c.map (·.1)) := by
    clear hm h hc hb
    induction c with
    | nil => exact .nil
    | cons p r ih => exact .cons _ _ ih
  have h1 := StrLaws.sumLen_le (B := 1000) (c.map (·.1)) (by simpa using hb)
  rw [List.length_map] at h1
  have h2 : c.length * x.length ≤ 2000 * 10 := Nat.mul_le_mul hc hx
  have h3 : c.length * 1000 ≤ 2000 * 1000 := Nat.mul_le_mul_right _ hc
  have h4 := StrLaws.join_length_le x (c.map (·.1))
  rw [List.length_map] at h4
  refine join_list (items := (strValues c).toArray) ⟨_, (N _ hm).1, rfl, n, rfl⟩ hi (by rw [List.length_map]; omega) fun t' k => h t' k ?_
  show (Builtin.Str.glued x (c.map (·.1))).length ≤ 2100000
  rw [StrLaws.glued_eq_join]
  omega
theorem l_split {x y : Str} {t u : Tok} {Q : Value → Shared → Prop} (F : Fr h₀ L s.heap m) (N : News h₀ L s.heap news) (hx : x.length ≤ 100000) (hy : (y.length == 0) = false)
    (h : ∀ (D : Addr) (l : List (Str × Tok)) h' k, l.map (·.1) = Txt.split x y → l.length ≤ x.length + 1 → (∀ p ∈ l, p.1.length ≤ x.length) → Fr h₀ L h' m → News h₀ L h' ((D, listOf (strValues l).toArray 0) :: news) → (∀ p ∈ news, p.1 < D) → Q (.ref D) { s with heap := h', toks := k }) :
    wpAny (model prog w) A (call (.builtin "str.split") [.str x t, .str y u]) Q E s :=
  splitN1A F N hy (fun l h' k e _ hs _ F' N' => h _ l h' k e (by
    have hy1 : 1 ≤ y.length := by
      rcases Nat.eq_zero_or_pos y.length with z | z
      · rw [z] at hy; cases hy
      · exact z
    have hw := split_weight x y hy1
    rw [← e, List.length_map] at hw
    omega) (fun p hp => hs _ (List.mem_map_of_mem hp)) F' N' fun p hp => Heap.lt_size (N p hp).1) (by rw [sizeLine_eq]; omega)
theorem l_new {Q : Value → Shared → Prop} (F : Fr h₀ L s.heap m) (N : News h₀ L s.heap news) (hz : vs.length ≤ 100000)
    (h : ∀ (D : Addr) h', Fr h₀ L h' m → News h₀ L h' ((D, listOf vs.toArray 0) :: news) → (∀ p ∈ news, p.1 < D) → Q (.ref D) { s with heap := h' }) : wpAny (model prog w) A (newList vs) Q E s :=
  newList_N F N (fun h' F' N' => h _ h' F' N' fun p hp => Heap.lt_size (N p hp).1) (by rw [sizeLine_eq]; omega)
theorem l_append {x : Value} {Q : Value → Shared → Prop} (F : Fr h₀ L s.heap m) (N : News h₀ L s.heap news) (U : Upd D (listOf vs.toArray n) (listOf (vs ++ [x]).toArray (n + 1)) news news')
    (hz : vs.length ≤ 100000) (h : ∀ h', Fr h₀ L h' m → News h₀ L h' news' → Q .none { s with heap := h' }) : wpAny (model prog w) A (call (.builtin "list.append") [.ref D, x]) Q E s := by
  have e : vs.toArray.push x = (vs ++ [x]).toArray := by simp
  exact append_K F N (by rw [e]; exact U) h (by simp [sizeLine_eq]; omega)
end

section
variable {prog : Program} {w : World} {A : Around} {E : Value → Shared → Prop} {s : Shared} {env : Env} {h₀ : Heap} {x : Str} {body : List Stmt} {Q : Flow → Shared → Prop}
/-- a loop over a list of the ledger that changes one list of texts, and no name but its own -/
def GrowPost (h₀ : Heap) (L : Addr) (D : Addr) (rest : List (Addr × Obj)) (m₀ : Str → Option Value) (x : Str) (P : List (Str × Tok) → Prop) (s : Shared) (Q : Flow → Shared → Prop) (f : Flow) (s₂ : Shared) : Prop :=
  match f with
  | .ret v => Q (.ret v) s₂
  | .brk => Q .next s₂
  | _ => ∃ (c' : List (Str × Tok)) (n' : Nat) (h' : Heap) (tk' : Nat) (m' : Str → Option Value), s₂ = { s with heap := h', toks := tk' } ∧ Fr h₀ L h' m' ∧ News h₀ L h' ((D, listOf (strValues c').toArray n') :: rest) ∧ P c' ∧ ∀ z, z ≠ x → m' z = m₀ z
theorem grow_next {D : Addr} {L : Addr} {rest : List (Addr × Obj)} {m₀ m' : Str → Option Value} {P : List (Str × Tok) → Prop} {h' : Heap} {tk' : Nat} {its : Array Value} {n' : Nat} (c' : List (Str × Tok)) (F : Fr h₀ L h' m') (N : News h₀ L h' ((D, listOf its n') :: rest)) (hi : its = (strValues c').toArray) (hP : P c') (hm : ∀ z, z ≠ x → m' z = m₀ z) :
    GrowPost h₀ L D rest m₀ x P s Q .next { s with heap := h', toks := tk' } := by
  subst hi
  exact ⟨c', n', h', tk', m', rfl, F, N, hP, hm⟩
theorem grow_cont {D : Addr} {L : Addr} {rest : List (Addr × Obj)} {m₀ m' : Str → Option Value} {P : List (Str × Tok) → Prop} {h' : Heap} {tk' : Nat} {its : Array Value} {n' : Nat} (c' : List (Str × Tok)) (F : Fr h₀ L h' m') (N : News h₀ L h' ((D, listOf its n') :: rest)) (hi : its = (strValues c').toArray) (hP : P c') (hm : ∀ z, z ≠ x → m' z = m₀ z) :
    GrowPost h₀ L D rest m₀ x P s Q .cont { s with heap := h', toks := tk' } := grow_next (Q := Q) c' F N hi hP hm
theorem iter_grow {l D : Addr} {vs : List Value} {n₀ k₀ : Nat} {m₀ : Str → Option Value} {rest : List (Addr × Obj)} (P : Nat → List (Str × Tok) → Prop)
    (hh : A.handled = none) (F : Fr h₀ env.locals s.heap m₀) (N : News h₀ env.locals s.heap ((D, listOf #[] k₀) :: rest)) (hl : (l, listOf vs.toArray n₀) ∈ rest) (hp : P 0 [])
    (turn : ∀ (i : Nat) (c : List (Str × Tok)) (n : Nat) (v : Value) (h : Heap) (tk : Nat) (I : Addr) (oI : Obj), vs[i]? = some v → P i c → D ≠ I →
      Fr h₀ env.locals h (fun y => if y = x then some v else m₀ y) → News h₀ env.locals h ((D, listOf (strValues c).toArray n) :: (rest ++ [(I, oI)])) →
      wpAny (model prog w) A (execs body env) (GrowPost h₀ env.locals D (rest ++ [(I, oI)]) m₀ x (P (i + 1)) s Q) E { s with heap := h, toks := tk })
    (done : ∀ (c : List (Str × Tok)) (n : Nat) (u : Str → Option Value) (h : Heap) (tk : Nat), P vs.length c → Fr h₀ env.locals h (fun y => if y = x then u y else m₀ y) → News h₀ env.locals h ((D, listOf (strValues c).toArray n) :: rest) → Q .next { s with heap := h, toks := tk }) :
    wpAny (model prog w) A (pyIter (.ref l)) (fun it s₂ => LoopAtV prog w A h₀ env x body Q E it s₂) E s := by
  have hs : ∀ (u : Str → Option Value) (y : Str), kstB (fun z => if ([] : List Str).contains z then u z else m₀ z) [] y = m₀ y := by
    intro u y
    simp [kstB]
  refine iter_led (σ := List (Str × Tok) × Nat) (fun c => (D, listOf (strValues c.1).toArray c.2) :: rest) (fun _ => []) [] (fun i c => P i c.1) ([], k₀) hh F N (fun p hp => hp) (.inr fun c => .tail _ hl) (by simp) hp ?_ ?_
  · rintro i ⟨c, n⟩ v u h tk I oI hv hP hI F7 N7
    simp only [hs] at F7
    refine wpAny_mono (turn i c n v h tk I oI hv hP (hI _ (.head _)) F7 N7) (fun f s₂ p => ?_) fun _ _ e => e
    have fin : (∃ (c' : List (Str × Tok)) (n' : Nat) (h' : Heap) (tk' : Nat) (m' : Str → Option Value), s₂ = { s with heap := h', toks := tk' } ∧ Fr h₀ env.locals h' m' ∧ News h₀ env.locals h' ((D, listOf (strValues c').toArray n') :: (rest ++ [(I, oI)])) ∧ P (i + 1) c' ∧ ∀ z, z ≠ x → m' z = m₀ z) →
        TurnEnd h₀ env.locals (fun c : List (Str × Tok) × Nat => (D, listOf (strValues c.1).toArray c.2) :: rest) (fun _ => []) [] m₀ x I oI (fun c => P (i + 1) c.1) s s₂ := by
      rintro ⟨c', n', h', tk', m', e, F', N', hP', hm⟩
      refine ⟨(c', n'), h', tk', m', _, e, F', N', fun p hp => ?_, ?_, fun p hp => ?_, hP', by simp, fun z hz _ _ => hm z hz⟩
      · rcases List.mem_cons.mp hp with rfl | hp
        · exact .head _
        · exact .tail _ (List.mem_append.mpr (.inl hp))
      · exact .tail _ (List.mem_append.mpr (.inr (.head _)))
      · rcases List.mem_cons.mp hp with rfl | hp
        · exact hI (D, listOf (strValues c).toArray n) (.head _)
        · exact hI p (.tail _ hp)
    cases f with
    | ret v => exact p
    | brk => exact p
    | next => exact fin p
    | cont => exact fin p
  · rintro ⟨c, n⟩ u h tk hP F7 N7
    simp only [hs] at F7
    exact done c n u h tk hP F7 N7
end
end

noncomputable section
open PySem PySem.W PyProof.Rows PySem.Calls PySem.Spec
set_option maxRecDepth 100000
theorem owner_map : Manifest.owners.lookup (String.ofList ['p', 'a', 'm'].reverse) = some Manifest.sig_map := by kernel_rfl
theorem slot_map_init : Slot "map" "__init__" "object.__init__" :=
  .of (owner := "object") (n := "__init__") (by rw [typeLookup_type, builtinLookup_eq_fast]; kernel_rfl) (by decide +kernel) (by decide +kernel) (by decide +kernel)
    (by first | exact .inl (by decide +kernel) | exact .inr (by decide +kernel)) (by rw [isSubtype_type]; kernel_rfl)
theorem slot_map_next : Slot "map" "__next__" "map.__next__" :=
  .of (owner := "map") (n := "__next__") (by rw [typeLookup_type, builtinLookup_eq_fast]; kernel_rfl) (by decide +kernel) (by decide +kernel) (by decide +kernel)
    (by first | exact .inl (by decide +kernel) | exact .inr (by decide +kernel)) (by rw [isSubtype_type]; kernel_rfl)
theorem slot_map_iter : Slot "map" "__iter__" "map.__iter__" :=
  .of (owner := "map") (n := "__iter__") (by rw [typeLookup_type, builtinLookup_eq_fast]; kernel_rfl) (by decide +kernel) (by decide +kernel) (by decide +kernel)
    (by first | exact .inl (by decide +kernel) | exact .inr (by decide +kernel)) (by rw [isSubtype_type]; kernel_rfl)
theorem entry_map_next : entryFor table "map.__next__" = some Builtin.«map.__next__» := entryFor_of_tree (by kernel_rfl)
theorem args_map_next (a : Value) : argsOk "map.__next__" ⟨[a], []⟩ := by
  unfold argsOk; rw [signature?_of (id := "map.__next__") (n := ['_', '_', 't', 'x', 'e', 'n', '_', '_']) (o := ['p', 'a', 'm']) (by kernel_rfl) owner_map]; kernel_rfl
theorem args_map_iter (a : Value) : argsOk "map.__iter__" ⟨[a], []⟩ := by
  unfold argsOk; rw [signature?_of (id := "map.__iter__") (n := ['_', '_', 'r', 'e', 't', 'i', '_', '_']) (o := ['p', 'a', 'm']) (by kernel_rfl) owner_map]; kernel_rfl
theorem entry_map_iter : entryFor table "map.__iter__" = some Builtin.«dict_keyiterator.__iter__» :=
  entryFor_alias (id' := "dict_keyiterator.__iter__") (by kernel_rfl) (by first | rfl | decide +kernel | (unfold String.splitOn; simp +decide [String.splitOnAux])) (by decide +kernel) (by kernel_rfl)
theorem mro_map : mroOf (.type "map") = pure [.type "map", .type "object"] := by rw [mroOf_type]; kernel_rfl
theorem lookup_map_new : typeLookup (.type "map") "__new__" = pure (some (.builtin "map.__new__")) := by rw [typeLookup_type, builtinLookup_eq_fast]; kernel_rfl
theorem called_map : TypeCalled "map" "map.__new__" "object.__init__" :=
  ⟨by decide +kernel, by decide +kernel, ⟨_, _, mro_map⟩, madeBy_type mro_map lookup_map_new (by decide +kernel), by decide +kernel, by rw [isSubtype_type]; kernel_rfl, slot_map_init⟩
theorem typeCall_map (a b : Value) : checkTypeCall "map" ⟨[a, b], []⟩ = pure () := by kernel_rfl
theorem newCall_map (a b : Value) : checkBuiltinCall "map.__new__" ⟨[.type "map", a, b], []⟩ = pure () := by kernel_rfl
theorem entry_map_new : entryFor table "map.__new__" = some Builtin.«map.__new__» := entryFor_of_tree (by kernel_rfl)
theorem sub_map_self : isSubtype (.type "map") (.type "map") = pure true := by rw [isSubtype_type]; kernel_rfl
theorem newClass_map (a b : Value) : Builtin.SmallTypes.newClass "map" ⟨[.type "map", a, b], []⟩ = pure (.type "map", [a, b]) := by
  unfold Builtin.SmallTypes.newClass
  simp only [isType, sub_map_self, pure_bind, Bool.not_true, Bool.false_eq_true, if_false]
theorem map_no_len : typeLookup (.type "map") "__len__" = pure none := by rw [typeLookup_type, builtinLookup_eq_fast]; kernel_rfl
theorem map_no_hint : typeLookup (.type "map") "__length_hint__" = pure none := by rw [typeLookup_type, builtinLookup_eq_fast]; kernel_rfl
theorem args_obj_init3 (o a b : Value) : argsOk "object.__init__" ⟨[o, a, b], []⟩ := by unfold argsOk; kernel_rfl
def mapObj (tp : Addr) (f : Value) : Obj := { cls := .type "map", data := .fields #[.ref tp, f] }
def liObj (l : Addr) (i : Nat) : Obj := { cls := .type "list_iterator", data := .fields #[.ref l, .int i 0] }
section
variable {prog : Program} {w : World} {A : Around} {E : Value → Shared → Prop} {s : Shared} {h₀ : Heap} {L l : Addr} {m : Str → Option Value} {news news' : List (Addr × Obj)} {n : Nat} {v : Value}
theorem map_meets (f : Value) (l : Addr) (items : Array Value) :
    Meets (Builtin.«map.__new__» ⟨[.type "map", f, .ref l], []⟩) (fun _ R s => s.heap.IsList l items ∧ R (.ok (.ret (.ref (s.heap.objs.size + 2)))) { s with heap := ((s.heap.push (liObj l 0)).push (tupOf [.ref s.heap.objs.size] 0)).push (mapObj (s.heap.objs.size + 1) f) }) :=
  .of_wp fun prog w A R s h => by
    obtain ⟨hl, h⟩ := h
    unfold Builtin.«map.__new__»
    refine wpAny_bind (wpAny_of_eq (newClass_map _ _) ?_)
    try dsimp only
    refine wpAny_bind (wpAny_of_eq (a := ()) (by first | rfl | kernel_rfl) ?_)
    refine wpAny_bind (m := Builtin.SmallTypes.iterAll _) ?_
    unfold Builtin.SmallTypes.iterAll
    refine wpAny_bind (m := forIn [Value.ref l] _ _) ?_
    simp only [List.forIn_cons, List.forIn_nil]
    refine wpAny_bind (wpAny_bind (wpAny_holding (wpAny_pyIter_list hl ?_)))
    refine wpAny_pure (wpAny_pure (wpAny_pure ?_))
    refine wpAny_bind (wpAny_newTuple ?_ (by show (1 : Nat) ≤ _; decide +kernel))
    unfold Builtin.SmallTypes.newRecord
    refine wpAny_bind (wpAny_newObj_type (wpAny_pure ⟨_, rfl, ?_⟩))
    have e1 : ((s.heap.push (liObj l 0)).push (tupOf [.ref s.heap.objs.size] 0)).objs.size = s.heap.objs.size + 2 := by rw [Heap.size_push, Heap.size_push]
    have e2 : (s.heap.push (liObj l 0)).objs.size = s.heap.objs.size + 1 := by rw [Heap.size_push]
    show R (.ok (.ret (.ref ((s.heap.push (liObj l 0)).push (tupOf [.ref s.heap.objs.size] 0)).objs.size))) { s with heap := ((s.heap.push (liObj l 0)).push (tupOf [.ref s.heap.objs.size] 0)).push (mapObj (s.heap.push (liObj l 0)).objs.size f) }
    rw [e1, e2]
    exact h
theorem map_new {f : Value} {items : Array Value} {Q : Value → Shared → Prop} (F : Fr h₀ L s.heap m) (N : News h₀ L s.heap news) (hl : s.heap.IsList l items)
    (h : ∀ M tp It h', Fr h₀ L h' m → News h₀ L h' ((M, mapObj tp f) :: (tp, tupOf [.ref It] 0) :: (It, liObj l 0) :: news) → (∀ p ∈ news, p.1 < It) → It < tp → tp < M → Q (.ref M) {s with heap := h'}) :
    wpAny (model prog w) A (call (.type "map") [f, .ref l]) Q E s := by
  refine callType_new called_map (by decide) (typeCall_map _ _) (newCall_map _ _) (fun obj => args_obj_init3 obj _ _) entry_map_new (map_meets f l items) ⟨hl, ?_⟩
  have F1 := F.push (liObj l 0)
  have N1 := News.push F N (liObj l 0)
  have F2 := F1.push (tupOf [.ref s.heap.objs.size] 0)
  have N2 := News.push F1 N1 (tupOf [.ref s.heap.objs.size] 0)
  have F3 := F2.push (mapObj (s.heap.objs.size + 1) f)
  have N3 := News.push F2 N2 (mapObj (s.heap.objs.size + 1) f)
  have e1 : ((s.heap.push (liObj l 0)).push (tupOf [.ref s.heap.objs.size] 0)).objs.size = s.heap.objs.size + 2 := by rw [Heap.size_push, Heap.size_push]
  have e2 : (s.heap.push (liObj l 0)).objs.size = s.heap.objs.size + 1 := by rw [Heap.size_push]
  rw [e1, e2] at N3
  exact ⟨⟨_, (N3 _ (.head _)).1, rfl⟩, h (s.heap.objs.size + 2) (s.heap.objs.size + 1) s.heap.objs.size _ F3 N3 (fun p hp => Heap.lt_size (N p hp).1) (Nat.lt_succ_self _) (Nat.lt_succ_self _)⟩
theorem wpAny_nextOf {it l : Addr} {i : Nat} {items : Array Value} {x : Value} {Q : Value → Shared → Prop} (hit : s.heap.get? it = some (liObj l i))
    (hl : s.heap.IsList l items) (hx : items[i]? = some x)
    (hQ : ∀ h', h'.get? it = some (liObj l (i + 1)) → Heap.SameBut it s.heap h' → Q x { s with heap := h' }) :
    wpAny (model prog w) A (Builtin.SmallTypes.nextOf (.ref it)) Q E s := by
  obtain ⟨ol, hol, _, nl, hdl⟩ := hl
  have hT : s.TypeIs (.ref it) "list_iterator" := ⟨_, hit, rfl⟩
  unfold Builtin.SmallTypes.nextOf
  refine wpAny_bind (wpAny_callSpecial?_slot (name := Str.ofString "__next__") hT slot_listiter_next
    (wpAny_call_entry slot_listiter_next hT entry_listiter_next ?_ (args_listiter_next _)))
  show wpAny _ _ (field (.ref it) 0 >>= _) _ _ s
  refine wpAny_bind (wpAny_field hit rfl (x := .ref l) rfl ?_)
  show wpAny _ _ (if (Value.ref l == Value.none) = true then _ else _) _ _ s
  rw [if_neg (show ¬ ((Value.ref l == Value.none) = true) from Bool.false_ne_true)]
  show wpAny _ _ (field (.ref it) 1 >>= _) _ _ s
  refine wpAny_bind (wpAny_field hit rfl (x := .int i 0) rfl ?_)
  show wpAny _ _ (seqItems? (.ref l) >>= _) _ _ s
  refine wpAny_bind (wpAny_seqItems hol hdl ?_)
  simp only [Int.toNat_natCast, hx]
  refine wpAny_bind (wpAny_setField hit rfl (by simp) (wpAny_pure ⟨x, rfl, wpAny_pure (hQ _ ?_ (Heap.SameBut.update ..))⟩))
  exact Heap.get?_update_self _ hit rfl
theorem wpAny_nextOf_end {it l : Addr} {i : Nat} {items : Array Value} {Q : Value → Shared → Prop} (hh : A.handled = none) (hit : s.heap.get? it = some (liObj l i))
    (hl : s.heap.IsList l items) (hx : items[i]? = none)
    (hQ : ∀ h' e, Heap.ExtBut it s.heap h' → ({ s with heap := h' } : Shared).TypeIs e "StopIteration" → E e { s with heap := h' }) :
    wpAny (model prog w) A (Builtin.SmallTypes.nextOf (.ref it)) Q E s := by
  obtain ⟨ol, hol, _, nl, hdl⟩ := hl
  have hT : s.TypeIs (.ref it) "list_iterator" := ⟨_, hit, rfl⟩
  unfold Builtin.SmallTypes.nextOf
  refine wpAny_bind (wpAny_callSpecial?_slot (name := Str.ofString "__next__") hT slot_listiter_next
    (wpAny_call_entry slot_listiter_next hT entry_listiter_next ?_ (args_listiter_next _)))
  show wpAny _ _ (field (.ref it) 0 >>= _) _ _ s
  refine wpAny_bind (wpAny_field hit rfl (x := .ref l) rfl ?_)
  show wpAny _ _ (if (Value.ref l == Value.none) = true then _ else _) _ _ s
  rw [if_neg (show ¬ ((Value.ref l == Value.none) = true) from Bool.false_ne_true)]
  show wpAny _ _ (field (.ref it) 1 >>= _) _ _ s
  refine wpAny_bind (wpAny_field hit rfl (x := .int i 0) rfl ?_)
  show wpAny _ _ (seqItems? (.ref l) >>= _) _ _ s
  refine wpAny_bind (wpAny_seqItems hol hdl ?_)
  simp only [Int.toNat_natCast, hx]
  refine wpAny_bind (wpAny_rule (wpAny_bind (wpAny_setField hit rfl (by simp) ?_)))
  show wpAny _ _ (newExc (.type "StopIteration") [] >>= _) _ _ _
  refine wpAny_bind ?_
  simp only [newExc, newTuple]
  refine wpAny_bind (wpAny_newObj_type ?_ (by size_fits))
  refine wpAny_bind (m := firstArgMember _ _) (wpAny_of_eq (a := Value.none) (by first | rfl | (simp only [firstArgMember]; rfl)) ?_)
  refine wpAny_newObj_type ?_ (by size_fits)
  simp only [raiseNew]
  refine wpAny_bind (wpAny_handled ?_)
  rw [show A.in1.handled = none from hh]
  refine wpAny_bind (wpAny_pure (wpAny_throw ?_))
  exact hQ _ _ (((Heap.SameBut.update ..).extBut.push _).push _) ⟨_, Heap.get?_push_size _ rfl, rfl⟩
theorem map_next {M tp It l : Addr} {f x : Value} {items : Array Value} {i : Nat} {Q : Option Value → Shared → Prop} (hM : s.heap.get? M = some (mapObj tp f)) (hT : s.heap.get? tp = some (tupOf [.ref It] 0)) (hI : s.heap.get? It = some (liObj l i))
    (hl : s.heap.IsList l items) (hx : items[i]? = some x) (ne1 : M ≠ It)
    (hf : ∀ h', h'.get? It = some (liObj l (i + 1)) → Heap.SameBut It s.heap h' → wpAny (model prog w) A.in1 (call f [x]) (fun r s' => Q (some r) s') (fun _ _ => False) { s with heap := h' }) :
    wpAny (model prog w) A (pyNext (.ref M)) Q E s := by
  have hTM : s.TypeIs (.ref M) "map" := ⟨_, hM, rfl⟩
  unfold pyNext
  refine wpAny_bind (wpAny_attempt (wpAny_callSpecial?_slot (name := Str.ofString "__next__") hTM slot_map_next (wpAny_call_entry slot_map_next hTM entry_map_next ?_ (args_map_next _))))
  unfold Builtin.«map.__next__»
  refine wpAny_bind (wpAny_of_eq (a := (Value.ref M, [])) rfl ?_)
  try dsimp only
  refine wpAny_bind (wpAny_field hM rfl (x := .ref tp) rfl ?_)
  refine wpAny_bind (wpAny_seqItems hT rfl ?_)
  dsimp only
  refine wpAny_bind (m := forIn _ _ _) ?_
  simp only [List.forIn_toArray, List.forIn_cons, List.forIn_nil]
  refine wpAny_bind (wpAny_bind (wpAny_holding (wpAny_nextOf hI hl hx fun h' h1 h2 => ?_)))
  refine wpAny_pure (wpAny_pure ?_)
  have hM' : h'.get? M = some (mapObj tp f) := h2.extBut _ _ ne1 hM
  refine wpAny_bind (wpAny_field hM' rfl (x := f) rfl ?_)
  refine wpAny_bind (wpAny_holding (wpAny_mono (hf h' h1 h2) (fun r s' hq => ?_) fun _ _ h => h.elim))
  exact wpAny_bind (wpAny_letGo (wpAny_pure ⟨_, rfl, wpAny_pure hq⟩))
theorem map_end {M tp It l : Addr} {f : Value} {items : Array Value} {i : Nat} {Q : Option Value → Shared → Prop} (hh : A.handled = none) (hM : s.heap.get? M = some (mapObj tp f)) (hT : s.heap.get? tp = some (tupOf [.ref It] 0)) (hI : s.heap.get? It = some (liObj l i))
    (hl : s.heap.IsList l items) (hx : items[i]? = none)
    (hf : ∀ h', Heap.ExtBut It s.heap h' → Q none { s with heap := h' }) :
    wpAny (model prog w) A (pyNext (.ref M)) Q E s := by
  have hTM : s.TypeIs (.ref M) "map" := ⟨_, hM, rfl⟩
  unfold pyNext
  refine wpAny_bind (wpAny_attempt (wpAny_callSpecial?_slot (name := Str.ofString "__next__") hTM slot_map_next (wpAny_call_entry slot_map_next hTM entry_map_next ?_ (args_map_next _))))
  unfold Builtin.«map.__next__»
  refine wpAny_bind (wpAny_of_eq (a := (Value.ref M, [])) rfl ?_)
  try dsimp only
  refine wpAny_bind (wpAny_field hM rfl (x := .ref tp) rfl ?_)
  refine wpAny_bind (wpAny_seqItems hT rfl ?_)
  dsimp only
  refine wpAny_bind (m := forIn _ _ _) ?_
  simp only [List.forIn_toArray, List.forIn_cons, List.forIn_nil]
  refine wpAny_bind (wpAny_bind (wpAny_holding (wpAny_nextOf_end hh hI hl hx fun h' e h1 h2 => ?_)))
  refine wpAny_bind (wpAny_isInstance (T := "StopIteration") (b := true) h2 isSubtype_stop ?_)
  exact wpAny_pure (hf h' h1)
theorem map_self {M tp : Addr} {f : Value} {Q : Value → Shared → Prop} (hM : s.heap.get? M = some (mapObj tp f)) (h : Q (.ref M) s) : wpAny (model prog w) A (pyIter (.ref M)) Q E s := by
  have hTM : s.TypeIs (.ref M) "map" := ⟨_, hM, rfl⟩
  refine wpAny_pyIter_slot hTM slot_map_iter (wpAny_call_entry slot_map_iter hTM entry_map_iter ?_ (args_map_iter _))
  show wpAny _ _ (ret (.ref M)) _ _ s
  exact wpAny_pure ⟨_, rfl, "map", _, hTM, slot_map_next.lookup, h⟩
/-- list(map(f, l)) under way: f gives back what it is given -/
def IdAt (prog : Program) (w : World) (A : Around) (h₀ : Heap) (L : Addr) (m : Str → Option Value) (f : Value) : Prop :=
  ∀ (x : Str) (t : Tok) (s : Shared) (news : List (Addr × Obj)) (Q E : Value → Shared → Prop), Fr h₀ L s.heap m → News h₀ L s.heap news →
    (∀ h' tk', Fr h₀ L h' m → News h₀ L h' news → Q (.str x t) { s with heap := h', toks := tk' }) → wpAny (model prog w) A (call f [.str x t]) Q E s
theorem sv_get {c : List (Str × Tok)} {i : Nat} {p : Str × Tok} (h : c[i]? = some p) : (strValues c).toArray[i]? = some (.str p.1 p.2) := by simp [strValues, h]
theorem map_loop {S M tp It l : Addr} {f res : Value} {c : List (Str × Tok)} {R : Result → Shared → Prop} (hh : A.handled = none) (hf : IdAt prog w A.in1.in1 h₀ L m f) (hl : h₀.IsList l (strValues c).toArray) (hcl : c.length ≤ 1000)
    (o1 : ∀ p ∈ news, p.1 < It) (o2 : It < tp) (o3 : tp < M) (o4 : M < S)
    (hR : ∀ h' tk', Fr h₀ L h' m → News h₀ L h' news → (∃ k, h'.get? S = some (listOf (strValues c).toArray k)) → R (.ok (.ret res)) { s with heap := h', toks := tk' }) :
    ∀ (k i : Nat) (h : Heap) (tk : Nat) (n : Nat), c.length - i = k → i ≤ c.length → Fr h₀ L h m → News h₀ L h ((S, listOf (strValues (c.take i)).toArray n) :: (M, mapObj tp f) :: (tp, tupOf [.ref It] 0) :: (It, liObj l i) :: news) →
      codeAny (model prog w) A (.builtin "list.extend.loop" ⟨[.ref S, .ref M, res], []⟩) R { s with heap := h, toks := tk } := by
  have nSI : S ≠ It := Nat.ne_of_gt (Nat.lt_trans o2 (Nat.lt_trans o3 o4))
  have nMI : M ≠ It := Nat.ne_of_gt (Nat.lt_trans o2 o3)
  have nTI : tp ≠ It := Nat.ne_of_gt o2
  intro k
  induction k with
  | zero =>
    intro i h tk n hk hi F N
    have hin : i = c.length := by omega
    subst hin
    rw [List.take_length] at N
    refine codeAny_builtin PySem.F.entry_extend_loop ?_
    rw [Around.under_plainId PySem.F.plain_extend_loop _]
    show wpAny _ A.in1 (pyNext (.ref M) >>= _) _ _ _
    have hIt := (N (It, liObj l c.length) (.tail _ (.tail _ (.tail _ (.head _))))).1
    refine wpAny_bind (map_end (M := M) (tp := tp) (It := It) (l := l) (items := (strValues c).toArray) hh (N _ (.tail _ (.head _))).1 (N (tp, tupOf [.ref It] 0) (.tail _ (.tail _ (.head _)))).1 hIt (hl.at fun o e => F.keep _ _ e) (by simp [strValues]) fun h' hx => ?_)
    have nI := N (It, liObj l c.length) (.tail _ (.tail _ (.tail _ (.head _))))
    have hk' : ∀ b o, b ∉ [It] → h.get? b = some o → h'.get? b = some o := fun b o hb e => hx b o (fun q => hb (by simp [q])) e
    refine wpAny_pure (hR h' tk (kmb_fr F hk' nI.2.1 nI.2.2) (kmb_news (fun p hp => N p (.tail _ (.tail _ (.tail _ (.tail _ hp))))) hk' fun p hp => Nat.ne_of_lt (o1 p hp)) ⟨n, hx _ _ nSI (N _ (.head _)).1⟩)
  | succ k ih =>
    intro i h tk n hk hi F N
    obtain ⟨p, hp⟩ : ∃ p, c[i]? = some p := ⟨c[i]'(by omega), List.getElem?_eq_getElem (by omega)⟩
    refine codeAny_builtin PySem.F.entry_extend_loop ?_
    rw [Around.under_plainId PySem.F.plain_extend_loop _]
    show wpAny _ A.in1 (pyNext (.ref M) >>= _) _ _ _
    have nI := N (It, liObj l i) (.tail _ (.tail _ (.tail _ (.head _))))
    have nM := N (M, mapObj tp f) (.tail _ (.head _))
    have nT := N (tp, tupOf [.ref It] 0) (.tail _ (.tail _ (.head _)))
    have nS := N _ (.head _)
    refine wpAny_bind (map_next (M := M) (tp := tp) (It := It) (l := l) (items := (strValues c).toArray) nM.1 nT.1 nI.1 (hl.at fun o e => F.keep _ _ e) (sv_get hp) nMI fun h' hI' hs' => ?_)
    have hk' : ∀ b o, b ∉ [It] → h.get? b = some o → h'.get? b = some o := fun b o hb e => hs'.extBut b o (fun q => hb (by simp [q])) e
    have F1 := kmb_fr F hk' nI.2.1 nI.2.2
    have N1 : News h₀ L h' ((S, listOf (strValues (c.take i)).toArray n) :: (M, mapObj tp f) :: (tp, tupOf [.ref It] 0) :: (It, liObj l (i + 1)) :: news) := by
      intro q hq
      rcases List.mem_cons.mp hq with rfl | hq
      · exact ⟨hk' _ _ (by simpa using nSI) nS.1, nS.2⟩
      rcases List.mem_cons.mp hq with rfl | hq
      · exact ⟨hk' _ _ (by simpa using nMI) nM.1, nM.2⟩
      rcases List.mem_cons.mp hq with rfl | hq
      · exact ⟨hk' _ _ (by simpa using nTI) nT.1, nT.2⟩
      rcases List.mem_cons.mp hq with rfl | hq
      · exact ⟨hI', nI.2⟩
      · have z := N q (.tail _ (.tail _ (.tail _ (.tail _ hq))))
        exact ⟨hk' _ _ (by simpa using Nat.ne_of_lt (o1 q hq)) z.1, z.2⟩
    refine hf p.1 p.2 _ _ _ _ F1 N1 fun h2 tk2 F2 N2 => ?_
    have nS2 := N2 _ (.head _)
    show wpAny _ A.in1 (updateSeq S (·.push (.str p.1 p.2)) >>= _) _ _ _
    refine wpAny_bind ?_
    have e1 : (strValues (c.take i)).toArray.size = i := by simp [strValues]; omega
    have ei : i ≤ 1000 := by omega
    have s1 := Heap.SameBut.update h2 S (Obj.mapSeq (·.push (Value.str p.1 p.2)))
    refine wpAny_updateSeq nS2.1 rfl (wpAny_pure ⟨plainId_quiet PySem.F.plain_extend_loop _, ih (i + 1) _ _ (n + 1) (by omega) (by omega) (F2.change s1 nS2.2.1 nS2.2.2) ?_⟩)
      (by rw [e1, sizeLine_eq]; omega) (by rw [Array.size_push, e1, sizeLine_eq]; omega)
    intro q hq
    rcases List.mem_cons.mp hq with rfl | hq
    · refine ⟨?_, nS2.2⟩
      have e2 : strValues (c.take (i + 1)) = strValues (c.take i) ++ [.str p.1 p.2] := by
        rw [List.take_add_one, hp]
        simp [strValues]
      have := Heap.get?_update_self (Obj.mapSeq (·.push (Value.str p.1 p.2))) nS2.1 rfl
      rw [e2]
      rw [this]
      simp [Obj.mapSeq, W.listOf]
    · have z := N2 q (.tail _ hq)
      refine ⟨s1.extBut _ _ ?_ z.1, z.2⟩
      rcases List.mem_cons.mp hq with rfl | hq
      · exact Nat.ne_of_lt o4
      rcases List.mem_cons.mp hq with rfl | hq
      · exact Nat.ne_of_lt (Nat.lt_trans o3 o4)
      rcases List.mem_cons.mp hq with rfl | hq
      · exact Nat.ne_of_lt (Nat.lt_trans o2 (Nat.lt_trans o3 o4))
      · exact Nat.ne_of_lt (Nat.lt_trans (o1 q hq) (Nat.lt_trans o2 (Nat.lt_trans o3 o4)))
end
end

noncomputable section
open PySem PySem.W PyProof.Rows PySem.Calls PySem.Spec
open PySem.AutoSeq1 (wpAny_loadPart')
set_option maxRecDepth 100000
section
variable {prog : Program} {w : World} {A : Around} {E : Value → Shared → Prop} {s : Shared} {h₀ : Heap} {L l : Addr} {m : Str → Option Value} {news news' : List (Addr × Obj)} {n : Nat} {v : Value}
theorem collect_map {M tp It l : Addr} {f : Value} {c : List (Str × Tok)} {Q : List Value → Shared → Prop} (hh : A.handled = none) (hf : IdAt prog w A.in1.in1 h₀ L m f) (hl : h₀.IsList l (strValues c).toArray) (hcl : c.length ≤ 1000)
    (o1 : ∀ p ∈ news, p.1 < It) (o2 : It < tp) (o3 : tp < M) (F : Fr h₀ L s.heap m) (N : News h₀ L s.heap ((M, mapObj tp f) :: (tp, tupOf [.ref It] 0) :: (It, liObj l 0) :: news))
    (hQ : ∀ h' tk', Fr h₀ L h' m → News h₀ L h' news → Q (strValues c) { s with heap := h', toks := tk' }) : wpAny (model prog w) A (collect (.ref M)) Q E s := by
  have nM := N _ (.head _)
  have hSI : s.heap.objs.size ≠ M := Nat.ne_of_gt (Heap.lt_size nM.1)
  have F₁ := F.push { cls := .type "list", data := .seq ([] : List Value).toArray }
  have N₁ := News.push F N { cls := .type "list", data := .seq ([] : List Value).toArray }
  unfold collect
  refine wpAny_bind (wpAny_runValue (codeAny_builtin PySem.F.entry_proto_collect ?_))
  rw [Around.under_plainId PySem.F.plain_proto_collect _]
  show wpAny _ A.in1 (newList [] >>= fun l => again (.builtin "list.__iadd__" ⟨[l, .ref M], []⟩)) _ _ s
  refine wpAny_bind (wpAny_newObj_type ?_)
  refine wpAny_pure ⟨plainId_quiet PySem.F.plain_list_iadd _, codeAny_builtin PySem.F.entry_list_iadd ?_⟩
  rw [Around.under_plainId PySem.F.plain_list_iadd _]
  show wpAny _ A.in1 (Builtin.List.listExtendWith (.ref s.heap.objs.size) (.ref M) (.ref s.heap.objs.size)) _ _ _
  unfold Builtin.List.listExtendWith
  have nM1 := N₁ _ (.tail _ (.head _))
  refine wpAny_bind (wpAny_typeOf (T := "map") ⟨_, nM1.1, rfl⟩ ?_)
  have h1 : Builtin.List.listSameRef (.ref s.heap.objs.size) (.ref M) = false := by simp [Builtin.List.listSameRef, hSI]
  have h2 : (Value.type "map" == Value.type "list") = false := by decide
  have h3 : (Value.type "map" == Value.type "tuple") = false := by decide
  simp only [h1, h2, h3, Bool.or_false, Bool.false_eq_true, if_false]
  refine wpAny_bind (map_self nM1.1 ?_)
  refine wpAny_bind (wpAny_holding ?_)
  unfold Builtin.List.listLengthHint
  refine wpAny_bind (wpAny_specialOf (T := "map") ⟨_, nM1.1, rfl⟩ map_no_len ?_)
  show wpAny _ A.in1 (specialOf (Value.ref M) (Str.ofString "__length_hint__") >>= _) _ _ _
  refine wpAny_bind (wpAny_specialOf (T := "map") ⟨_, nM1.1, rfl⟩ map_no_hint ?_)
  refine wpAny_pure ?_
  show wpAny _ A.in1 (rule "list.extend.makes-room" >>= fun _ => Builtin.List.listTouch (.ref s.heap.objs.size) >>= fun _ =>
    again (.builtin "list.extend.loop" ⟨[.ref s.heap.objs.size, .ref M, .ref s.heap.objs.size], []⟩)) _ _ _
  refine wpAny_bind (wpAny_rule ?_)
  have hS₁ : (s.heap.push { cls := .type "list", data := .seq ([] : List Value).toArray }).get? s.heap.objs.size = some { cls := .type "list", data := .seq ([] : List Value).toArray } := Heap.get?_push_size _ rfl
  refine wpAny_bind ?_
  show wpAny _ A.in1 (updateSeq s.heap.objs.size (·.push .none) >>= fun _ => updateSeq s.heap.objs.size (·.pop)) _ _ _
  refine wpAny_bind (wpAny_updateSeq hS₁ rfl ?_)
  have hS₂ := Heap.get?_update_self (Obj.mapSeq (·.push Value.none)) hS₁ rfl
  refine wpAny_updateSeq hS₂ rfl ?_
  have hS₃ := Heap.get?_update_self (Obj.mapSeq (·.pop)) hS₂ rfl
  have oth : ∀ b o, b ≠ s.heap.objs.size → (s.heap.push { cls := .type "list", data := .seq ([] : List Value).toArray }).get? b = some o →
      (((s.heap.push { cls := .type "list", data := .seq ([] : List Value).toArray }).update s.heap.objs.size (Obj.mapSeq (·.push Value.none))).update s.heap.objs.size (Obj.mapSeq (·.pop))).get? b = some o :=
    fun b o hb e => (Heap.get?_update_other _ _ (Ne.symm hb)).trans ((Heap.get?_update_other _ _ (Ne.symm hb)).trans e)
  have nS := N₁ _ (.head _)
  have s1 := (Heap.SameBut.update (s.heap.push { cls := .type "list", data := .seq ([] : List Value).toArray }) s.heap.objs.size (Obj.mapSeq (·.push Value.none))).trans (Heap.SameBut.update _ s.heap.objs.size (Obj.mapSeq (·.pop)))
  have F₃ := F₁.change s1 nS.2.1 nS.2.2
  refine wpAny_pure ⟨plainId_quiet PySem.F.plain_extend_loop _, map_loop (s := s) (m := m) (l := l) (c := c) (news := news) hh hf hl hcl o1 o2 o3 (Heap.lt_size nM.1) ?_ c.length 0 _ s.toks 2 rfl (Nat.zero_le _) F₃ ?_⟩
  · rintro h' tk' F' N' ⟨k, hk⟩
    show wpAny _ A (load s.heap.objs.size >>= _) _ _ _
    refine wpAny_bind (wpAny_load hk ?_)
    exact wpAny_pure (hQ h' tk' F' N')
  · intro q hq
    rcases List.mem_cons.mp hq with rfl | hq
    · exact ⟨hS₃, nS.2⟩
    · have z := N₁ q (.tail _ hq)
      exact ⟨s1.extBut _ _ (Nat.ne_of_lt (Heap.lt_size (N q hq).1)) z.1, z.2⟩
theorem code_tuple_map {M tp It l : Addr} {f : Value} {c : List (Str × Tok)} {Q₁ : Value → Shared → Prop} (hh : A.handled = none) (hf : IdAt prog w A.in1.in1.in1 h₀ L m f) (hl : h₀.IsList l (strValues c).toArray) (hcl : c.length ≤ 1000)
    (o1 : ∀ p ∈ news, p.1 < It) (o2 : It < tp) (o3 : tp < M) (F : Fr h₀ L s.heap m) (N : News h₀ L s.heap ((M, mapObj tp f) :: (tp, tupOf [.ref It] 0) :: (It, liObj l 0) :: news))
    (h : ∀ D h' tk', Fr h₀ L h' m → News h₀ L h' ((D, tupOf (strValues c) 0) :: news) → (∀ p ∈ news, p.1 < D) → Q₁ (.ref D) { s with heap := h', toks := tk' }) :
    codeAny (model prog w) A (.call (.builtin "tuple.__new__") ⟨[.type "tuple", .ref M], []⟩) (wants Q₁ E) s := by
  refine codeAny_of_tree ?_
  show wpAny _ A.in1 (do checkBuiltinCall "tuple.__new__" ⟨[.type "tuple", .ref M], []⟩; again (.builtin "tuple.__new__" ⟨[.type "tuple", .ref M], []⟩)) _ _ s
  refine wpAny_bind (wpAny_of_eq (PySem.F.newCall_tuple_1 _) (wpAny_pure ⟨plainId_quiet PySem.F.plain_tuple_new _, codeAny_builtin PySem.F.entry_tuple_new ?_⟩))
  rw [Around.under_plainId PySem.F.plain_tuple_new _]
  have hsub := sub_tuple_self
  have hinit := init_tuple_lookup
  have hmh := madeHere_tuple
  have hTI : s.TypeIs (.ref M) "map" := ⟨_, (N _ (.head _)).1, rfl⟩
  wp_walk using wpAny_typeOf hTI, collect_map (A := A.in1) hh hf hl hcl o1 o2 o3 F N
  intro h' tk' F' N'
  show wpAny _ _ (Builtin.Tuple.tupleExact (strValues c).toArray >>= fun v => ret v) _ _ _
  unfold Builtin.Tuple.tupleExact
  refine wpAny_bind (wpAny_newObj_type ?_ (by show (strValues c).toArray.size ≤ sizeLine; rw [sizeLine_eq]; simp [strValues]; omega))
  refine wpAny_pure ?_
  exact h _ _ _ (F'.push _) (News.push F' N' _) fun p hp => Heap.lt_size (N' p hp).1
theorem tuple_map {M tp It l : Addr} {f : Value} {c : List (Str × Tok)} {Q : Value → Shared → Prop} (hh : A.handled = none) (hf : IdAt prog w A.in1.in1.in1.in1 h₀ L m f) (hl : h₀.IsList l (strValues c).toArray) (hcl : c.length ≤ 1000)
    (o1 : ∀ p ∈ news, p.1 < It) (o2 : It < tp) (o3 : tp < M) (F : Fr h₀ L s.heap m) (N : News h₀ L s.heap ((M, mapObj tp f) :: (tp, tupOf [.ref It] 0) :: (It, liObj l 0) :: news))
    (h : ∀ D h' tk', Fr h₀ L h' m → News h₀ L h' ((D, tupOf (strValues c) 0) :: news) → (∀ p ∈ news, p.1 < D) → Q (.ref D) { s with heap := h', toks := tk' }) :
    wpAny (model prog w) A (call (.type "tuple") [.ref M]) Q E s := by
  refine callType_codes (Q₁ := fun obj s₁ => s₁.TypeIs obj "tuple" ∧ Q obj s₁) PySem.F.called_tuple (PySem.F.typeCall_tuple_1 _) PySem.F.entry_object_init
    (code_tuple_map (A := A.in1) hh hf hl hcl o1 o2 o3 F N fun D h' tk' F' N' o' => ⟨⟨_, (N' _ (.head _)).1, rfl⟩, h D h' tk' F' N' o'⟩) fun obj s₁ h₁ => ?_
  exact ⟨h₁.1, PySem.F.args_object_init_2 obj _, object_init_meets PySem.F.called_tuple.init.lookup PySem.F.called_tuple.made (by decide) prog w A.in1 _ s₁ ⟨h₁.1, rfl, h₁.2⟩⟩
end
end

noncomputable section
open PySem PySem.W PyProof.Rows PySem.Calls
set_option maxRecDepth 100000
theorem fspath_id {w : World} {mean : ExcName → Option Value} {mg mb : Str → Option Value} {dp un : Nat} {gd : Option (List Code)} {cn : Str} {cs : Scope} {a : Addr} {ccd : Value} {cl : List (Str × Addr)} {outer : List Env} {A₀ : Around} {base h₀ : Heap} {L : Addr} {m : Str → Option Value}
    (B : Below A₀ base outer h₀) (X : (hd.heap_39 w.params).In h₀) (T : Top vw (looseW vw []) mean mg mb h₀) (hk : cs.kind = .function) (hd : dp + 1 < recursionLimit) (hu : un + 8 < cLine) :
    IdAt Challenge.rw_pd0106_01.row.prog w (ktrTop dp un gd cn cs L a ccd cl outer) h₀ L m (.ref 94) := by
  intro x9 t9 s9 news9 Q9 E9 F9 N9 h9
  exact ctr_use (fspath_c _ _ _) B F9 X N9 T hk hd hu trivial fun v9 h' tk9 F' N' st9 e9 => by subst e9; exact h9 _ _ F' N'
theorem tuple_map_fspath {w : World} {mean : ExcName → Option Value} {mg mb : Str → Option Value} {dp un : Nat} {gd : Option (List Code)} {cn : Str} {cs : Scope} {a : Addr} {ccd : Value} {cl : List (Str × Addr)} {outer : List Env} {A₀ : Around} {base h₀ : Heap} {L : Addr} {m : Str → Option Value} {s : Shared} {Q E : Value → Shared → Prop} {x y : Str} {t u : Tok} {n : Nat} {M tp It l : Addr} {news : List (Addr × Obj)}
    (B : Below A₀ base outer h₀) (F : Fr h₀ L s.heap m) (X : (hd.heap_39 w.params).In h₀) (N : News h₀ L s.heap ((M, mapObj tp (.ref 94)) :: (tp, tupOf [.ref It] 0) :: (It, liObj l 0) :: news)) (T : Top vw (looseW vw []) mean mg mb h₀) (hk : cs.kind = .function) (hd : dp + 1 < recursionLimit) (hu : un + 12 < cLine)
    (hl : h₀.get? l = some (listOf #[.str x t, .str y u] n)) (o1 : ∀ p ∈ news, p.1 < It) (o2 : It < tp) (o3 : tp < M)
    (h : ∀ D h' tk', Fr h₀ L h' m → News h₀ L h' ((D, tupOf [.str x t, .str y u] 0) :: news) → (∀ p ∈ news, p.1 < D) → Q (.ref D) { s with heap := h', toks := tk' }) :
    wpAny (model Challenge.rw_pd0106_01.row.prog w) (ktrTop dp un gd cn cs L a ccd cl outer) (call (.type "tuple") [.ref M]) Q E s :=
  tuple_map (c := [(x, t), (y, u)]) rfl (fspath_id (un := un + 1 + 1 + 1 + 1) B X T hk hd (by omega)) ⟨_, hl, rfl, _, rfl⟩ (Nat.le_of_ble_eq_true rfl) o1 o2 o3 F N h
end

noncomputable section
open PySem PySem.W PyProof.Rows PySem.Calls PySem.Spec PyProof.Rows.LCg
set_option maxRecDepth 100000
section
variable {prog : Program} {w : World} {A : Around} {E : Value → Shared → Prop} {s : Shared} {h₀ : Heap} {L : Addr} {m : Str → Option Value} {env : Env}
def tupAt (ax : Addr) (its : Array Value) (k : Nat) (nw : List (Addr × Obj)) : Prop := (ax, ({ cls := .type "tuple", data := .seq its k } : Obj)) ∈ nw
theorem tup_st {ax I : Addr} {its : Array Value} {k : Nat} : ∀ i (h h' : Heap) (o : Obj) (nw : List (Addr × Obj)), (h.IsTupleIter I ax i ∧ h.IsTuple ax its) → h.get? I = some o → h'.get? I = some o → (∀ b o, h₀.get? b = some o → h'.get? b = some o) → News h₀ L h' nw → tupAt ax its k nw → (h'.IsTupleIter I ax i ∧ h'.IsTuple ax its) :=
  fun _ _ _ o _ st e e' _ N S => ⟨by obtain ⟨o', q, r⟩ := st.1; rw [e] at q; cases q; exact ⟨o, e', r⟩, ⟨_, (N _ S).1, rfl, k, rfl⟩⟩
/-- the source of a comprehension: a tuple of the ledger -/
def TupSrc (prog : Program) (w : World) (A : Around) (h₀ : Heap) (L : Addr) (m : Str → Option Value) (env : Env) (elt : Expr) (x : Str) (scope : Scope) (cl : List (Str × Addr)) (Fin : Shared → List Value → List (Addr × Obj) → Prop) (xv : Value) (s₁ : Shared) : Prop :=
  ∃ ax its k news, xv = .ref ax ∧ A.handled = none ∧ Fr h₀ L s₁.heap m ∧ News h₀ L s₁.heap news ∧ tupAt ax its k news ∧ its.size ≤ 1000 ∧
    ∀ g, CompRest prog w A h₀ L m env elt x scope cl { s₁ with heap := g } (tupAt ax its k) (fun i v => its[i]? = some v) (Fin { s₁ with heap := g }) its.size 0 [] news
theorem comp_assign_tup {elt iter : Expr} {x y : Str} {px py : Pos} {scope : Scope} {cl : List (Str × Addr)} {pos spos : Pos} {Q : Flow → Shared → Prop} (F₀ : Fr h₀ L s.heap m) (hLe : env.locals = L)
    (hsw : swapsWith (.ListComp elt [⟨.Name x px, iter, [], 0⟩] scope pos) (some (.Name y py)) spos.line env = pure true)
    (hclos : closureFor scope env = pure cl) (hcell : ∀ z ∈ scope.names, z.2 ≠ .cell) (hkind : scope.kind = .function)
    (hnames : ∀ z ∈ scope.names, z.2 = .local → scope.names.lookup z.1 = some .local) (hx : scope.names.lookup x = some .local)
    (hy : env.kindOf y = some .local) (hp : (env.scope.kind == .class || (env.scope.kind == .module && env.locals != env.globals)) = false)
    (h : wpAny (model prog w) A (eval iter env) (TupSrc prog w A h₀ L m env elt x scope cl (fun s₂ => FinA h₀ L m s₂ y Q)) E s)
    (hs : ∀ x, foldedSetIterable iter env x = pure x := by intro _; rfl) :
    wpAny (model prog w) A (exec (.Assign [.Name y py] (.ListComp elt [⟨.Name x px, iter, [], 0⟩] scope pos) spos) env) Q E s := by
  subst hLe
  have _ := F₀
  rw [exec_Assign_Name_used _ _ _ _ hsw]
  refine wpAny_bind (wpAny_standAt (wpAny_bind ?_))
  show wpAny _ A (do let _ ← comprehension (.ListComp elt [⟨.Name x px, iter, [], 0⟩] scope pos) scope env _ (newList []) false (eval iter env) (some (assign (.Name y py) env))) _ _ s
  refine wpAny_bind (wpAny_mono (wpAny_comprehension_free (use := some (assign (.Name y py) env)) (Q := fun _ s' => Q .next s') rfl hs hclos hkind hnames
    (wpAny_mono h (fun xv s₁ h₁ => ?_) fun _ _ e => e)) (fun _ s' hq => wpAny_pure (wpAny_pure hq)) fun _ _ e => e)
  obtain ⟨ax, its, k, news, rfl, hh, F, N, S, hsz, R⟩ := h₁
  have hl : s₁.heap.IsTuple ax its := ⟨_, (N _ S).1, rfl, k, rfl⟩
  have hlt : ax < s₁.heap.objs.size := Heap.lt_size (N _ S).1
  refine wpAny_pyIter_tuple hl ?_
  have up : ∀ b o, s₁.heap.get? b = some o → (s₁.heap.push { cls := .type "tuple_iterator", data := .fields #[.ref ax, .int 0 0] }).get? b = some o := fun b o e => Heap.get?_push_of_some _ e
  refine block_U (Walks.tuple hh s₁.heap.objs.size ax (Nat.ne_of_lt hlt) its) (by rw [sizeLine_eq]; omega) (fun i h st => by obtain ⟨o, e, _⟩ := st.1; exact ⟨o, e⟩) (tup_st (k := k)) hcell hkind hx ⟨⟨_, Heap.get?_push_size _ rfl, rfl, rfl⟩, hl.push _⟩ (fun b hb => ?_)
    (F.keeps up) (N.grown up) (Nat.ne_of_lt F.ns.lt) (next_is_new F) (fun p hp => Nat.ne_of_lt (Heap.lt_size (N p hp).1)) S (R _) ?_
  · show b < (s₁.heap.push _).objs.size
    rw [Heap.size_push]
    rcases List.mem_cons.mp hb with rfl | hb
    · exact Nat.lt_succ_self _
    · rw [List.mem_singleton.mp hb]; exact Nat.lt_succ_of_lt hlt
  · intro D C h' tk m' ys news' F' N' o1 hn hC₀ hD₀ hCL hDL hCD offC fin
    show wpAny _ A (assign (.Name y py) env (.ref D)) _ _ _
    refine wpAny_assign_Name (wpAny_storeName_local hy F'.ns (fun h₂ hn₂ hs₂ => ?_) hp)
    have hL₀ : h₀.get? env.locals = none := Heap.get?_none_of_le F'.above
    have F₂ : Fr h₀ env.locals h₂ (fun z => if z = y then some (.ref D) else m z) := ⟨hn₂, fun b o e => hs₂.extBut b o (fun q => by rw [q, hL₀] at e; cases e) (F'.keep b o e), F'.above⟩
    refine ⟨m', hn.sameBut hs₂ hCL, fun h'' hs'' => fin D h'' _ (F₂.change hs'' hCL hC₀) (fun p hp => ?_) o1⟩
    have z : h₂.get? p.1 = some p.2 := hs₂.extBut _ _ (N' p hp).2.1 (N' p hp).1
    refine ⟨hs''.extBut _ _ ?_ z, (N' p hp).2⟩
    rcases List.mem_cons.mp hp with rfl | hp
    · exact Ne.symm hCD
    · exact offC p hp
end
end

noncomputable section
open PySem PySem.W PyProof.Rows PySem.Calls PySem.Spec
set_option maxRecDepth 100000
section
variable {prog : Program} {w : World} {A : Around} {E : Value → Shared → Prop} {s : Shared}
def setT0 (b : Bool) : SetTable := { mask := 7, place := #[], dummies := #[], finger := 0, led := b, moves := 0, plain := true }
def setT1 (b : Bool) : SetTable := { mask := 7, place := #[1], dummies := #[], finger := 0, led := b, moves := 0, plain := true }
theorem hash_true {Q : Int → Shared → Prop} (h : ∀ tk, Q 1 { s with toks := tk }) : wpAny (model prog w) A (pyHash (.bool true)) Q E s :=
  pyHash_slot (T := "bool") rfl F.slot_bool_hash entry_int_hash (args_int_hash _) (beq_builtin_none _) (.inl rfl) (show wpAny _ _ (do ret (← mkInt 1)) _ _ s from wpAny_bind (wpAny_mkInt (wpAny_pure ⟨_, _, rfl, h _⟩)))
theorem lay_true (b : Bool) : layNew (setT0 b) #[] 1 (.bool true) = (#[(1, .bool true)], setT1 b, false, false) := by cases b <;> kernel_rfl
set_option maxHeartbeats 2000000 in
theorem set_add1 {S : Addr} {b : Bool} {Q : Fin → Shared → Prop} (hS : s.heap.get? S = some { cls := .type "set", data := .set #[] 0 (setT0 b) })
   (hq : ∀ tk, Q (.done (.ret .none)) { s with heap := s.heap.update S (Obj.putSet #[(1, .bool true)] (setT1 b)), toks := tk }) :
   wpAny (model prog w) A (Builtin.«set.add» ⟨[.ref S, .bool true], []⟩) Q E s := by
  have hT : s.TypeIs (.ref S) "set" := ⟨_, hS, rfl⟩
  repeat (any_goals (first | assumption | with_reducible refine hash_true ?_ | wp_step))
  intro tk
  have hS' : ({ s with toks := tk } : Shared).heap.get? S = some { cls := .type "set", data := .set #[] 0 (setT0 b) } := hS
  generalize hs' : ({ s with toks := tk } : Shared) = s' at hS' ⊢
  show wpAny _ _ (setAddHashedIn S (.bool true) 1 (99999 + 1)) _ _ _
  rw [setAddHashedIn]
  refine wpAny_bind (wpAny_setState_of hS' rfl rfl ?_)
  dsimp only
  rw [if_pos (show byScan (.bool true) #[] = true by decide +kernel)]
  refine wpAny_bind ?_
  unfold setAddByScan
  refine wpAny_bind (wpAny_rule ?_)
  refine wpAny_bind (m := setScan _ _ _ _ _) (wpAny_pure ?_)
  dsimp only
  refine wpAny_bind (wpAny_pure ?_)
  rw [lay_true]
  dsimp only
  rw [if_pos (show (setT1 b).plain = true from rfl)]
  refine wpAny_bind (m := hashByValue 8 (.bool true)) (wpAny_pure ?_)
  simp only [if_true]
  refine wpAny_bind ?_
  unfold storeSet
  refine wpAny_bind (wpAny_load hS' ?_)
  dsimp only
  rw [if_neg (show ¬ (#[((1 : Int), Value.bool true)].size > sizeLine) by decide +kernel)]
  refine wpAny_update hS' ?_
  rw [if_neg (show ¬ ((!false && (setT1 b).tooFull) = true) by cases b <;> decide +kernel)]
  refine wpAny_pure (wpAny_pure (wpAny_pure ?_))
  subst hs'
  exact hq tk
theorem set_add2 {S : Addr} {b : Bool} {ep : Nat} {Q : Fin → Shared → Prop} (hS : s.heap.get? S = some { cls := .type "set", data := .set #[(1, .bool true)] ep (setT1 b) })
   (hq : ∀ tk, Q (.done (.ret .none)) { s with toks := tk }) :
   wpAny (model prog w) A (Builtin.«set.add» ⟨[.ref S, .bool true], []⟩) Q E s := by
  have hT : s.TypeIs (.ref S) "set" := ⟨_, hS, rfl⟩
  repeat (any_goals (first | assumption | with_reducible refine hash_true ?_ | wp_step))
  intro tk
  have hS' : ({ s with toks := tk } : Shared).heap.get? S = some { cls := .type "set", data := .set #[(1, .bool true)] ep (setT1 b) } := hS
  generalize hs' : ({ s with toks := tk } : Shared) = s' at hS' ⊢
  show wpAny _ _ (setAddHashedIn S (.bool true) 1 (99999 + 1)) _ _ _
  rw [setAddHashedIn]
  refine wpAny_bind (wpAny_setState_of hS' rfl rfl ?_)
  dsimp only
  rw [if_pos (show byScan (.bool true) #[(1, .bool true)] = true by decide +kernel)]
  refine wpAny_bind ?_
  unfold setAddByScan
  refine wpAny_bind (wpAny_rule ?_)
  refine wpAny_bind ?_
  show wpAny _ _ (setScanFrom S (.bool true) 1 true [(1, .bool true)] 0) _ _ _
  unfold setScanFrom
  rw [if_pos (show ((1 : Int) == 1) = true from rfl)]
  refine wpAny_bind (wpAny_setEpoch_of hS' rfl rfl ?_)
  refine wpAny_bind (m := eqBool (.bool true) (.bool true)) ?_
  unfold eqBool
  refine wpAny_holding ?_
  rw [if_pos (show (Value.bool true == Value.bool true) = true from rfl)]
  refine wpAny_bind (wpAny_rule (wpAny_pure ?_))
  dsimp only
  rw [if_pos (show (true && true) = true from rfl)]
  refine wpAny_pure (wpAny_pure (wpAny_pure (wpAny_pure ?_)))
  subst hs'
  exact hq tk
end
end

noncomputable section
open PySem PySem.W PyProof.Rows PySem.Calls PySem.Spec PyProof.Rows.LCg
set_option maxRecDepth 100000
section
variable {prog : Program} {w : World} {A : Around} {R : Result → Shared → Prop} {E : Value → Shared → Prop} {s : Shared}
theorem setTurn (elt target iter : Expr) (scope : Scope) (pos : Pos) (it acc : Value) (env : Env) :
    compTurn (.SetComp elt [⟨target, iter, [], 0⟩] scope pos) 0 it acc env = (standAt iter.pos >>= fun _ => pyNext it >>= fun r => match r with
      | none => pure (.done .next)
      | some v => letOwnedTupleGo target it v >>= fun _ => assign target env v >>= fun _ =>
        (eval elt env >>= fun x => standAt elt.pos >>= fun _ => call (.builtin "set.add") [acc, x] >>= fun _ => pure ()) >>= fun _ =>
          again (.compLoop (.SetComp elt [⟨target, iter, [], 0⟩] scope pos) 0 it acc env)) := by rfl
theorem setLoop {elt target iter : Expr} {scope : Scope} {pos : Pos} {it acc : Value} {env : Env} (I : Nat → Shared → Prop)
    (turn : ∀ n s, I n s → wpAny (model prog w) A (pyNext it) (fun r s₁ => match r with
      | none => R (.ok .next) s₁
      | some v => wpAny (model prog w) A (assign target env v) (fun _ s₂ => wpAny (model prog w) A (eval elt env) (fun x s₃ =>
          wpAny (model prog w) A (call (.builtin "set.add") [acc, x]) (fun _ s₄ => ∃ m, m < n ∧ I m s₄) (notedBy (model prog w) A env fun e s' => R (.error e) s') s₃)
          (notedBy (model prog w) A env fun e s' => R (.error e) s') s₂) (notedBy (model prog w) A env fun e s' => R (.error e) s') s₁) (notedBy (model prog w) A env fun e s' => R (.error e) s') s)
    (n : Nat) (h : I n s) (ht : ∀ v, letOwnedTupleGo target it v = pure ()) :
    codeAny (model prog w) A (.compLoop (.SetComp elt [⟨target, iter, [], 0⟩] scope pos) 0 it acc env) R s := by
  refine codeAny_loop rfl I (fun n s hI => ?_) n h
  show wpAny _ A ((compTurn (.SetComp elt [⟨target, iter, [], 0⟩] scope pos) 0 it acc env).onRaise (fun x => do noteFrame x env; theTreesLotGoes x)) _ _ s
  refine wpAny_noted ?_
  rw [setTurn]
  refine wpAny_bind (wpAny_standAt (wpAny_bind (wpAny_mono (turn n s hI) (fun r s₁ h₁ => ?_) fun _ _ h' => h')))
  cases r with
  | none => exact wpAny_pure h₁
  | some v =>
    refine wpAny_bind (wpAny_of_eq (ht v) ?_)
    refine wpAny_bind (wpAny_mono h₁ (fun _ s₂ h₂ => ?_) fun _ _ h' => h')
    exact wpAny_bind (wpAny_bind (wpAny_mono h₂ (fun x s₃ h₃ => wpAny_bind (wpAny_standAt (wpAny_bind (wpAny_mono h₃ (fun _ s₄ h₄ => wpAny_pure (wpAny_pure ⟨rfl, h₄⟩)) fun _ _ h' => h')))) fun _ _ h' => h'))
theorem setStart {elt target iter : Expr} {scope : Scope} {pos : Pos} {it acc : Value} {env : Env}
    (h0 : codeAny (model prog w) A (.compLoop (.SetComp elt [⟨target, iter, [], 0⟩] scope pos) 0 it acc env) R s)
    (h : wpAny (model prog w) A (pyIter it) (fun it' s' => codeAny (model prog w) A (.compLoop (.SetComp elt [⟨target, iter, [], 0⟩] scope pos) 0 it' acc env) R s')
      (notedBy (model prog w) A env fun x s' => R (.error x) s') s) :
    codeAny (model prog w) A (.compStart (.SetComp elt [⟨target, iter, [], 0⟩] scope pos) 0 it acc env) R s := by
  refine codeAny_of_tree ?_
  show wpAny _ _ ((compStart (.SetComp elt [⟨target, iter, [], 0⟩] scope pos) 0 it acc env).onRaise (fun x => do noteFrame x env; standAt theWindowsPlace)) _ _ s
  refine wpAny_notedAt ?_
  unfold compStart
  show wpAny _ _ (ask >>= _) _ _ s
  refine wpAny_bind (wpAny_askSetting (wpAny_ite ?_))
  split
  · first
      | exact wpAny_bind (wpAny_pure (wpAny_pure (And.intro rfl h0)))
      | exact wpAny_pure (And.intro rfl h0)
  · first
      | exact wpAny_bind (wpAny_rule (wpAny_bind (wpAny_standAt (wpAny_bind (wpAny_mono h (fun it' s' h' => wpAny_pure (And.intro rfl h')) fun _ _ x => x)))))
      | (refine wpAny_bind (wpAny_rule ?_); show wpAny _ _ (standAt iter.pos >>= _) _ _ s; exact wpAny_bind (wpAny_standAt (wpAny_bind (wpAny_mono h (fun it' s' h' => wpAny_pure (And.intro rfl h')) fun _ _ x => x))))
end
def ledOf (w : World) : Bool := !(w.params.followText "set-order")
def setAtI (b : Bool) (ep : Nat) (i : Nat) : Obj := if i = 0 then { cls := .type "set", data := .set #[] 0 (setT0 b) } else { cls := .type "set", data := .set #[(1, .bool true)] ep (setT1 b) }
section
variable {prog : Program} {w : World} {A : Around} {E : Value → Shared → Prop} {s : Shared} {h₀ : Heap} {L : Addr} {m : Str → Option Value} {env : Env}
theorem set_put {S : Addr} {b : Bool} {i : Nat} {Q : Value → Shared → Prop} (hS : s.heap.get? S = some (setAtI b 1 i))
    (hq : ∀ h' tk, h'.get? S = some (setAtI b 1 (i + 1)) → Heap.SameBut S s.heap h' → Q .none { s with heap := h', toks := tk }) :
    wpAny (model prog w) A (call (.builtin "set.add") [.ref S, .bool true]) Q E s := by
  have hT : s.TypeIs (.ref S) "set" := ⟨_, hS, by unfold setAtI; split <;> rfl⟩
  refine wpAny_call_entry F.slot_set_add hT F.entry_set_add ?_ (F.args_set_add_2 _ _)
  cases i with
  | zero =>
    refine set_add1 (b := b) hS fun tk => ⟨_, rfl, hq _ tk ?_ (Heap.SameBut.update ..)⟩
    exact Heap.get?_update_self _ hS rfl
  | succ i =>
    refine set_add2 (b := b) (ep := 1) hS fun tk => ⟨_, rfl, hq _ tk hS ⟨rfl, fun _ _ => rfl⟩⟩
theorem new_set {Q : Value → Shared → Prop} (h : Q (.ref s.heap.objs.size) { s with heap := s.heap.push { cls := .type "set", data := .set #[] 0 (setT0 (ledOf w)) } }) : wpAny (model prog w) A (newSet (.type "set")) Q E s := by
  unfold newSet setsByText
  refine wpAny_bind (wpAny_bind (wpAny_askSetting (wpAny_pure ?_)))
  dsimp only
  simp only [newObj]
  exact wpAny_bind (wpAny_alloc (wpAny_pure h))
/-- the source of a set comprehension: a tuple of the ledger, every element of which gives True -/
def SetSrc (prog : Program) (w : World) (A : Around) (h₀ : Heap) (L : Addr) (m : Str → Option Value) (env : Env) (elt : Expr) (x : Str) (scope : Scope) (cl : List (Str × Addr)) (Q : Value → Shared → Prop) (xv : Value) (s₁ : Shared) : Prop :=
  ∃ ax its k news, xv = .ref ax ∧ A.handled = none ∧ Fr h₀ L s₁.heap m ∧ News h₀ L s₁.heap news ∧ tupAt ax its k news ∧ 0 < its.size ∧
    (∀ (i : Nat) v I oI C oC D oD m₂ h tk (E' : Value → Shared → Prop), its[i]? = some v → NsObj oC m₂ → m₂ x = some v → Fr h₀ L h m → News h₀ L h ((I, oI) :: (C, oC) :: (D, oD) :: news) →
      wpAny (model prog w) A (eval elt (compEnvC scope cl C env)) (fun y s₂ => y = .bool true ∧ ∃ tk', s₂ = { s₁ with heap := h, toks := tk' }) E' { s₁ with heap := h, toks := tk }) ∧
    ∀ D h tk, Fr h₀ L h m → News h₀ L h ((D, setAtI (ledOf w) 1 1) :: news) → (∀ p ∈ news, p.1 < D) → Q (.ref D) { s₁ with heap := h, toks := tk }
theorem setcomp_tup {elt iter : Expr} {x : Str} {px : Pos} {scope : Scope} {cl : List (Str × Addr)} {pos : Pos} {Q : Value → Shared → Prop} (F₀ : Fr h₀ L s.heap m)
    (hclos : closureFor scope env = pure cl) (hcell : ∀ z ∈ scope.names, z.2 ≠ .cell) (hkind : scope.kind = .function)
    (hnames : ∀ z ∈ scope.names, z.2 = .local → scope.names.lookup z.1 = some .local) (hx : scope.names.lookup x = some .local)
    (h : wpAny (model prog w) A (eval iter env) (SetSrc prog w A h₀ L m env elt x scope cl Q) E s)
    (hs : ∀ x, foldedSetIterable iter env x = pure x := by intro _; rfl) :
    wpAny (model prog w) A (eval (.SetComp elt [⟨.Name x px, iter, [], 0⟩] scope pos) env) Q E s := by
  have _ := F₀
  show wpAny _ A (comprehension (.SetComp elt [⟨.Name x px, iter, [], 0⟩] scope pos) scope env _ (newSet (.type "set")) false (eval iter env)) _ _ s
  refine wpAny_comprehension_free (use := none) rfl hs hclos hkind hnames (wpAny_mono h (fun xv s₁ h₁ => ?_) fun _ _ e => e)
  obtain ⟨ax, its, k, news, rfl, hh, F, N, S, hsz, helt, fin⟩ := h₁
  have hl : s₁.heap.IsTuple ax its := ⟨_, (N _ S).1, rfl, k, rfl⟩
  have hlt : ax < s₁.heap.objs.size := Heap.lt_size (N _ S).1
  refine wpAny_pyIter_tuple hl ?_
  have W := Walks.tuple (prog := prog) (w := w) hh s₁.heap.objs.size ax (Nat.ne_of_lt hlt) its
  refine new_set ?_
  generalize ledOf w = b at fin ⊢
  have up : ∀ b o, s₁.heap.get? b = some o → (s₁.heap.push { cls := .type "tuple_iterator", data := .fields #[.ref ax, .int 0 0] }).get? b = some o := fun b o e => Heap.get?_push_of_some _ e
  have F₂ := F.keeps up
  have N₂ := N.grown up
  have st₂ : (s₁.heap.push { cls := .type "tuple_iterator", data := .fields #[.ref ax, .int 0 0] }).IsTupleIter s₁.heap.objs.size ax 0 ∧ (s₁.heap.push { cls := .type "tuple_iterator", data := .fields #[.ref ax, .int 0 0] }).IsTuple ax its := ⟨⟨_, Heap.get?_push_size _ rfl, rfl, rfl⟩, hl.push _⟩
  have hIlt : s₁.heap.objs.size < (s₁.heap.push { cls := .type "tuple_iterator", data := .fields #[.ref ax, .int 0 0] }).objs.size := by rw [Heap.size_push]; exact Nat.lt_succ_self _
  have hIL : L ≠ s₁.heap.objs.size := Nat.ne_of_lt F.ns.lt
  have hI₀ : h₀.get? s₁.heap.objs.size = none := next_is_new F
  have offI : ∀ p ∈ news, p.1 ≠ s₁.heap.objs.size := fun p hp => Nat.ne_of_lt (Heap.lt_size (N p hp).1)
  generalize s₁.heap.objs.size = I at W st₂ hIlt hIL hI₀ offI ⊢
  generalize (s₁.heap.push { cls := .type "tuple_iterator", data := .fields #[.ref ax, .int 0 0] }) = H at F₂ N₂ st₂ hIlt up ⊢
  refine wpAny_newFunctionEnv hcell (by intro y hy; simp at hy) (fun h₁ hns₁ hsb₁ => ?_) hkind
  dsimp only at hns₁ hsb₁ ⊢
  generalize hH2 : H.push { cls := .type "set", data := .set #[] 0 (setT0 b) } = H2 at hns₁ hsb₁ ⊢
  have hC : H2.objs.size = H.objs.size + 1 := by rw [← hH2, Heap.size_push]
  have hDC : H.objs.size ≠ H2.objs.size := by rw [hC]; exact Nat.ne_of_lt (Nat.lt_succ_self _)
  have below : ∀ b, b < H.objs.size → b ≠ H2.objs.size ∧ b ≠ H.objs.size := fun b hb => ⟨by rw [hC]; exact Nat.ne_of_lt (Nat.lt_succ_of_lt hb), Nat.ne_of_lt hb⟩
  have old : ∀ b o, H.get? b = some o → h₁.get? b = some o := fun b o e => hsb₁.extBut b o (below b (Heap.lt_size e)).1 (Heap.get?_push_of_some _ (hH2 ▸ Heap.get?_push_of_some _ e))
  have hacc : h₁.get? H.objs.size = some (setAtI b 1 0) := hsb₁.extBut _ _ hDC (Heap.get?_push_of_some _ (hH2 ▸ Heap.get?_push_size _ rfl))
  have st₁ := W.frame _ _ _ st₂ fun b _ o e => old b o e
  have fresh : ∀ a, H.objs.size ≤ a → H.get? a = none := fun a ha => by
    cases e : H.get? a with
    | none => rfl
    | some o' => exact absurd (Heap.lt_size e) (Nat.not_lt.mpr ha)
  have fresh₀ : ∀ a, H.objs.size ≤ a → h₀.get? a = none := fun a ha => by
    cases e : h₀.get? a with
    | none => rfl
    | some o' => have := F₂.keep a o' e; rw [fresh a ha] at this; cases this
  have hD₀ : h₀.get? H.objs.size = none := fresh₀ _ (Nat.le_refl _)
  have hC₀ : h₀.get? H2.objs.size = none := fresh₀ _ (by rw [hC]; exact Nat.le_succ _)
  have hLlt : L < H.objs.size := F₂.ns.lt
  have hDL : H.objs.size ≠ L := Ne.symm (below L hLlt).2
  have hCL : H2.objs.size ≠ L := Ne.symm (below L hLlt).1
  have hCI : I ≠ H2.objs.size := (below I hIlt).1
  have hDI : I ≠ H.objs.size := (below I hIlt).2
  have offC : ∀ p ∈ news, p.1 ≠ H2.objs.size := fun p hp => (below _ (Heap.lt_size (N₂ p hp).1)).1
  have offD : ∀ p ∈ news, p.1 ≠ H.objs.size := fun p hp => (below _ (Heap.lt_size (N₂ p hp).1)).2
  have ltD : ∀ p ∈ news, p.1 < H.objs.size := fun p hp => Heap.lt_size (N₂ p hp).1
  have hax : ax ≠ H.objs.size ∧ ax ≠ H2.objs.size := ⟨offD _ S, offC _ S⟩
  have loop : ∀ s₃ : Shared, s₃ = { s₁ with heap := h₁, toks := s₁.toks + ([] : List (Str × Value)).length } →
      codeAny (model prog w) A (.compLoop (.SetComp elt [⟨.Name x px, iter, [], 0⟩] scope pos) 0 (.ref I) (.ref H.objs.size) (compEnvC scope cl H2.objs.size env))
        (compPost (model prog w) A E none Q (.ref H.objs.size) H2.objs.size) s₃ := by
    rintro s₃ rfl
    refine setLoop (fun k s' => ∃ h' tk i m', s' = { s₁ with heap := h', toks := tk } ∧ i ≤ its.size ∧ k = its.size + 1 - i ∧ (h'.IsTupleIter I ax i ∧ h'.IsTuple ax its) ∧ Fr h₀ L h' m ∧ h'.Ns H2.objs.size m' ∧ News h₀ L h' ((H.objs.size, setAtI b 1 i) :: news))
      ?_ (its.size + 1) ⟨h₁, _, 0, _, rfl, Nat.zero_le _, rfl, st₁, F₂.keeps old, hns₁, fun p hp => ?_⟩ (fun _ => rfl)
    · rintro k s' ⟨h', tk, i, m', rfl, hi, rfl, hst', F', hn', N'⟩
      by_cases hlt' : i < its.size
      · refine W.item i _ _ _ hlt' hst' fun v h₂ tk₂ hPv hst₂ hk₂ => ?_
        refine wpAny_assign_Name (wpAny_storeName_local (lookup_relabel_local hx) (hn'.at' fun o e => hk₂ _ o (by simpa using Ne.symm hCI) e) (fun h₃ hn₃ hs₃ => ?_) (by simp [compEnvC, relabel, hkind]))
        have hst₃ := W.frame (i + 1) _ h₃ hst₂ fun b hb o e => hs₃.extBut b o (fun q => by
          have q : b = H2.objs.size := q
          rcases List.mem_cons.mp hb with z | z
          · exact hCI (z.symm.trans q)
          · exact hax.2 ((List.mem_singleton.mp z).symm.trans q)) e
        obtain ⟨oI, heI, _⟩ := id hst₃.1
        obtain ⟨oC, heC, hoC⟩ := ns_obj hn₃
        have F₃ : Fr h₀ L h₃ m := (fr_but F' hk₂ hIL hI₀).change hs₃ hCL hC₀
        have N₂' : News h₀ L h₂ ((H.objs.size, setAtI b 1 i) :: news) := news_but N' hk₂ fun p hp => by
          rcases List.mem_cons.mp hp with rfl | hp
          · exact Ne.symm hDI
          · exact offI p hp
        have N₃ : News h₀ L h₃ ((I, oI) :: (H2.objs.size, oC) :: (H.objs.size, setAtI b 1 i) :: news) := fun p hp => by
          rcases List.mem_cons.mp hp with rfl | hp
          · exact ⟨heI, Ne.symm hIL, hI₀⟩
          · rcases List.mem_cons.mp hp with rfl | hp
            · exact ⟨heC, hCL, hC₀⟩
            · have z := N₂' p hp
              refine ⟨hs₃.extBut _ _ ?_ z.1, z.2⟩
              rcases List.mem_cons.mp hp with rfl | hp
              · exact hDC
              · exact offC p hp
        refine wpAny_mono (helt i v I oI H2.objs.size oC H.objs.size _ _ h₃ _ _ hPv hoC (by simp) F₃ N₃) (fun y s₄ h₄ => ?_) fun _ _ e => e
        obtain ⟨rfl, tk₄, rfl⟩ := h₄
        have zD := (N₃ (H.objs.size, setAtI b 1 i) (.tail _ (.tail _ (.head _)))).1
        refine set_put zD fun h₅ tk₅ hD₅ hs₅ => ?_
        refine ⟨its.size + 1 - (i + 1), by omega, h₅, tk₅, i + 1, _, rfl, hlt', rfl, W.frame _ _ _ hst₃ fun b hb o e => hs₅.extBut b o (fun q => by
          rcases List.mem_cons.mp hb with z | z
          · exact hDI (z.symm.trans q)
          · exact hax.1 ((List.mem_singleton.mp z).symm.trans q)) e, F₃.change hs₅ hDL hD₀, hn₃.sameBut hs₅ (Ne.symm hDC), fun p hp => ?_⟩
        rcases List.mem_cons.mp hp with rfl | hp
        · exact ⟨hD₅, hDL, hD₀⟩
        · have z := N₃ p (.tail _ (.tail _ (.tail _ hp)))
          exact ⟨hs₅.extBut _ _ (offD p hp) z.1, z.2⟩
      · obtain rfl : i = its.size := Nat.le_antisymm hi (Nat.not_lt.mp hlt')
        refine W.done _ _ _ hst' fun h₂ tk₂ hk₂ => ?_
        refine ⟨_, hn'.at' fun o e => hk₂ _ o (by simpa using Ne.symm hCI) e, fun h₃ hs₃ => ?_⟩
        have F₃ : Fr h₀ L h₃ m := (fr_but F' hk₂ hIL hI₀).change hs₃ hCL hC₀
        have e1 : setAtI b 1 its.size = setAtI b 1 1 := by unfold setAtI; rw [if_neg (by omega), if_neg (by omega)]
        rw [e1] at N'
        refine fin H.objs.size h₃ _ F₃ (fun p hp => ?_) ltD
        have z := news_but N' hk₂ (fun p hp => by
          rcases List.mem_cons.mp hp with rfl | hp
          · exact Ne.symm hDI
          · exact offI p hp) p hp
        refine ⟨hs₃.extBut _ _ ?_ z.1, z.2⟩
        rcases List.mem_cons.mp hp with rfl | hp
        · exact hDC
        · exact offC p hp
    · rcases List.mem_cons.mp hp with rfl | hp
      · exact ⟨hacc, hDL, hD₀⟩
      · exact ⟨old _ _ (N₂ p hp).1, (N₂ p hp).2⟩
  exact setStart (loop _ rfl) (W.self 0 _ _ _ st₁ (loop _ rfl))
end
end

noncomputable section
open PySem PySem.W PyProof.Rows PySem.Calls PySem.Spec
set_option maxRecDepth 100000
theorem owner_si : Manifest.owners.lookup (String.ofList ['r', 'o', 't', 'a', 'r', 'e', 't', 'i', '_', 't', 'e', 's'].reverse) = some Manifest.sig_set_iterator := by kernel_rfl
theorem slot_si_next : Slot "set_iterator" "__next__" "set_iterator.__next__" :=
  .of (owner := "set_iterator") (n := "__next__") (by rw [typeLookup_type, builtinLookup_eq_fast]; kernel_rfl) (by decide +kernel) (by decide +kernel) (by decide +kernel)
    (by first | exact .inl (by decide +kernel) | exact .inr (by decide +kernel)) (by rw [isSubtype_type]; kernel_rfl)
theorem entry_si_next : entryFor table "set_iterator.__next__" = some Builtin.«set_iterator.__next__» := entryFor_of_tree (by kernel_rfl)
theorem args_si_next (a : Value) : argsOk "set_iterator.__next__" ⟨[a], []⟩ := by
  unfold argsOk; rw [signature?_of (id := "set_iterator.__next__") (n := ['_', '_', 't', 'x', 'e', 'n', '_', '_']) (o := ['r', 'o', 't', 'a', 'r', 'e', 't', 'i', '_', 't', 'e', 's']) (by kernel_rfl) owner_si]; kernel_rfl
theorem entry_set_iter : entryFor table "set.__iter__" = some Builtin.«frozenset.__iter__» :=
  entryFor_alias (id' := "frozenset.__iter__") (by kernel_rfl) rfl (by decide +kernel) (by kernel_rfl)
section
variable {prog : Program} {w : World} {A : Around} {E : Value → Shared → Prop} {s : Shared}
def siObj (D : Addr) (a i : Int) : Obj := { cls := .type "set_iterator", data := .fields #[rawInt a, rawInt i, .ref D, rawInt 1, rawInt 1] }
theorem iter_set1 {D : Addr} {Q : Value → Shared → Prop} (hD : s.heap.get? D = some (setAtI (ledOf w) 1 1)) (hQ : Q (.ref s.heap.objs.size) { s with heap := s.heap.push (siObj D 0 0) }) :
    wpAny (model prog w) A (pyIter (.ref D)) Q E s := by
  have hT : s.TypeIs (.ref D) "set" := ⟨_, hD, rfl⟩
  refine wpAny_pyIter_slot hT F.slot_set_iter (wpAny_call_entry F.slot_set_iter hT entry_set_iter ?_ (F.args_set_iter_1 _))
  unfold setAtI at hD
  rw [if_neg (by decide)] at hD
  repeat (any_goals (first | assumption | with_reducible refine wpAny_setState_of hD rfl rfl ?_ | refine wpAny_askSetting ?_ | wp_step))
  rw [if_neg (by intro h; rw [Bool.and_eq_true] at h; exact absurd h.2 (by show ¬ ((!true && decide (1 > 1)) = true); decide))]
  refine wpAny_bind (wpAny_pure ?_)
  refine wpAny_bind (wpAny_setEpoch_of hD rfl rfl ?_)
  exact wpAny_bind (wpAny_newObj_type (wpAny_pure ⟨_, rfl, "set_iterator", _, ⟨_, Heap.get?_push_size _ rfl, rfl⟩, slot_si_next.lookup, hQ⟩))
abbrev one : Obj := { cls := .type "set", data := .set #[(1, .bool true)] 1 (setT1 true) }
theorem by_text {M : Model} {Q : Bool → Shared → Prop} (h : Q (M.w.params.followText "set-order") s) : wpAny M A setsByText Q E s := by
  unfold setsByText
  exact wpAny_bind (wpAny_askSetting (wpAny_pure h))
theorem walk_set1 {D : Addr} {b : Bool} {Q : Array (Int × Value) → Shared → Prop} (hD : s.heap.get? D = some { cls := .type "set", data := .set #[(1, .bool true)] 1 (setT1 b) }) (hft : w.params.followText "set-order" = true) (h : Q #[(1, .bool true)] s) :
    wpAny (model prog w) A (setWalk D) Q E s := by
  unfold setWalk
  refine wpAny_bind (wpAny_setState_of hD rfl rfl ?_)
  dsimp only
  refine wpAny_bind (by_text ?_)
  rw [show (model prog w).w.params.followText "set-order" = true from hft]
  rw [if_pos rfl]
  refine wpAny_bind (wpAny_askSetting (wpAny_pure ?_))
  have e : ∀ f : Nat → Nat, pickOrder f #[((1 : Int), Value.bool true)] = #[(1, .bool true)] := by
    intro f
    show pickOrder.go f 1 0 [((1 : Int), Value.bool true)] #[] = _
    unfold pickOrder.go
    have z : f 0 % [((1 : Int), Value.bool true)].length = 0 := Nat.mod_one _
    simp only [z]
    rfl
  rw [e]
  exact h
theorem set_next1 {D : Addr} {Q : Option (Value × Nat) → Shared → Prop} (hD : s.heap.get? D = some { cls := .type "set", data := .set #[(1, .bool true)] 1 (setT1 (ledOf w)) })
    (h : ∀ k, (w.params.followText "set-order" = false → k = 2) → Q (some (.bool true, k)) s) : wpAny (model prog w) A (setNext D 0 0 1) Q E s := by
  unfold setNext
  refine wpAny_bind (wpAny_setState_of hD rfl rfl ?_)
  dsimp only
  refine wpAny_bind (by_text ?_)
  cases hft : w.params.followText "set-order" with
  | true =>
    rw [show (model prog w).w.params.followText "set-order" = true from hft, if_pos rfl, if_neg (by decide)]
    refine wpAny_bind (walk_set1 hD hft (wpAny_pure ?_))
    exact h 0 (by rw [hft]; intro e; cases e)
  | false =>
    rw [show (model prog w).w.params.followText "set-order" = false from hft, if_neg (by decide)]
    rw [if_neg (by show ¬ ((!true && decide (1 > 1)) = true); decide)]
    have hl : ledOf w = true := by unfold ledOf; rw [hft]; rfl
    rw [hl]
    refine wpAny_bind (wpAny_pure (a := ()) (wpAny_pure ?_))
    exact h 2 fun _ => rfl
theorem set_next2 {D : Addr} {k : Nat} {Q : Option (Value × Nat) → Shared → Prop} (hD : s.heap.get? D = some { cls := .type "set", data := .set #[(1, .bool true)] 1 (setT1 (ledOf w)) }) (hk : w.params.followText "set-order" = false → k = 2)
    (h : Q none s) : wpAny (model prog w) A (setNext D k 1 1) Q E s := by
  unfold setNext
  refine wpAny_bind (wpAny_setState_of hD rfl rfl ?_)
  dsimp only
  refine wpAny_bind (by_text ?_)
  cases hft : w.params.followText "set-order" with
  | true =>
    rw [show (model prog w).w.params.followText "set-order" = true from hft, if_pos rfl, if_neg (by decide)]
    exact wpAny_bind (walk_set1 hD hft (wpAny_pure h))
  | false =>
    rw [show (model prog w).w.params.followText "set-order" = false from hft, if_neg (by decide)]
    rw [if_neg (by show ¬ ((!true && decide (1 > 1)) = true); decide)]
    have hl : ledOf w = true := by unfold ledOf; rw [hft]; rfl
    rw [hl, hk hft]
    exact wpAny_bind (wpAny_pure (a := ()) (wpAny_pure h))
theorem si_set {D : Addr} {a i : Int} {h : Heap} {it : Addr} (hI : h.get? it = some (siObj D a i)) (j : Nat) (v : Value) : (h.update it (Obj.mapFields (·.setIfInBounds j v))).get? it = some { cls := .type "set_iterator", data := .fields (#[rawInt a, rawInt i, .ref D, rawInt 1, rawInt 1].setIfInBounds j v) } :=
  Heap.get?_update_self _ hI rfl
theorem next_set1 {D it : Addr} {Q : Option Value → Shared → Prop} (hD : s.heap.get? D = some (setAtI (ledOf w) 1 1)) (hI : s.heap.get? it = some (siObj D 0 0))
    (hQ : ∀ h' (k : Nat), h'.get? it = some (siObj D k 1) → (w.params.followText "set-order" = false → k = 2) → Heap.SameBut it s.heap h' → Q (some (.bool true)) { s with heap := h' }) :
    wpAny (model prog w) A (pyNext (.ref it)) Q E s := by
  have hT : s.TypeIs (.ref it) "set_iterator" := ⟨_, hI, rfl⟩
  unfold pyNext
  refine wpAny_bind (wpAny_attempt (wpAny_callSpecial?_slot (name := Str.ofString "__next__") hT slot_si_next (wpAny_call_entry slot_si_next hT entry_si_next ?_ (args_si_next _))))
  unfold setAtI at hD
  rw [if_neg (by decide)] at hD
  have hI' := hI
  unfold siObj at hI
  repeat (any_goals (first | assumption | (with_reducible show wpAny _ _ (setNext _ _ _ _) _ _ _); refine set_next1 hD ?_ | with_reducible refine wpAny_setState_of hD rfl rfl ?_ | wp_step))
  intro k hk
  dsimp only
  refine wpAny_bind (wpAny_setField hI rfl (by simp) ?_)
  refine wpAny_bind (wpAny_setField (Heap.get?_update_self _ hI rfl) rfl (by simp) ?_)
  refine wpAny_pure ⟨_, rfl, wpAny_pure ?_⟩
  refine hQ _ k ?_ hk ((Heap.SameBut.update ..).trans (Heap.SameBut.update ..))
  exact Heap.get?_update_self _ (Heap.get?_update_self _ hI rfl) rfl
theorem next_set2 {D it : Addr} {k : Nat} {Q : Option Value → Shared → Prop} (hh : A.handled = none) (hD : s.heap.get? D = some (setAtI (ledOf w) 1 1)) (hI : s.heap.get? it = some (siObj D k 1)) (hk : w.params.followText "set-order" = false → k = 2)
    (hQ : ∀ h', Heap.ExtBut it s.heap h' → Q none { s with heap := h' }) :
    wpAny (model prog w) A (pyNext (.ref it)) Q E s := by
  have hT : s.TypeIs (.ref it) "set_iterator" := ⟨_, hI, rfl⟩
  unfold pyNext
  refine wpAny_bind (wpAny_attempt (wpAny_callSpecial?_slot (name := Str.ofString "__next__") hT slot_si_next (wpAny_call_entry slot_si_next hT entry_si_next ?_ (args_si_next _))))
  unfold setAtI at hD
  rw [if_neg (by decide)] at hD
  unfold siObj at hI
  repeat (any_goals (first | assumption | (with_reducible show wpAny _ _ (setNext _ _ _ _) _ _ _); refine set_next2 (k := k) hD hk ?_ | with_reducible refine wpAny_setState_of hD rfl rfl ?_ | wp_step))
  simp only [raiseNew]
  refine wpAny_bind (wpAny_handled ?_)
  rw [show A.in1.handled = none from hh]
  refine wpAny_bind (wpAny_pure (wpAny_throw ?_))
  refine wpAny_bind (wpAny_isInstance (T := "StopIteration") (b := true) ⟨_, Heap.get?_push_size _ rfl, rfl⟩ isSubtype_stop ?_)
  exact wpAny_pure (hQ _ (((Heap.SameBut.update ..).extBut.push _).push _))
theorem unpack_set1 {D : Addr} {Q : List Value → Shared → Prop} (hh : A.handled = none) (hD : s.heap.get? D = some (setAtI (ledOf w) 1 1))
    (hQ : ∀ h', Heap.ExtBut s.heap.objs.size s.heap h' → Q [.bool true] { s with heap := h' }) : wpAny (model prog w) A (unpackItems (.ref D) 1 none) Q E s := by
  have hT : s.TypeIs (.ref D) "set" := ⟨_, hD, rfl⟩
  have hne : D ≠ s.heap.objs.size := Nat.ne_of_lt (Heap.lt_size hD)
  unfold unpackItems
  refine wpAny_bind ?_
  unfold notIterableAtAll
  refine wpAny_bind (wpAny_specialOf hT F.slot_set_iter.lookup ?_)
  refine wpAny_pure ?_
  simp only [Bool.false_eq_true, if_false]
  refine wpAny_bind (wpAny_holding (iter_set1 hD ?_))
  have hD1 := Heap.get?_push_of_some (siObj D 0 0) hD
  refine wpAny_bind (wpAny_holding ?_)
  show wpAny _ _ (pyNext (.ref s.heap.objs.size) >>= _) _ _ _
  refine wpAny_bind (next_set1 (D := D) hD1 (Heap.get?_push_size _ rfl) fun h₁ k hI₁ hk hs₁ => ?_)
  refine wpAny_bind (wpAny_holding (m := draw (.ref s.heap.objs.size) 0) (wpAny_pure (wpAny_pure ?_)))
  rw [if_neg (by decide)]
  have hD2 : h₁.get? D = some (setAtI (ledOf w) 1 1) := hs₁.extBut _ _ hne hD1
  refine wpAny_bind (wpAny_holding (next_set2 (D := D) hh hD2 hI₁ hk fun h₂ he₂ => ?_))
  simp only [Option.isSome_none, Bool.false_eq_true, if_false]
  exact wpAny_pure (hQ h₂ fun b o hb e => he₂ b o hb (hs₁.extBut b o hb (Heap.get?_push_of_some _ e)))
theorem assign_set1 {env : Env} {e : Expr} {x1 : Nat} {pos : Pos} {D : Addr} {h₀ : Heap} {L : Addr} {m : Str → Option Value} {news : List (Addr × Obj)} {Q : Unit → Shared → Prop} (hh : A.handled = none) (F : Fr h₀ L s.heap m) (N : News h₀ L s.heap news) (hm : (D, setAtI (ledOf w) 1 1) ∈ news)
    (he : assignEach [e] env = [(false, assign e env)]) (h : ∀ h', Fr h₀ L h' m → News h₀ L h' news → wpAny (model prog w) A (assign e env (.bool true)) Q E { s with heap := h' }) :
    wpAny (model prog w) A (assign (.Tuple [e] x1 pos) env (.ref D)) Q E s := by
  rw [assign_Tuple, he]
  refine wpAny_bind (wpAny_standAt ?_)
  unfold unpack
  refine wpAny_bind (wpAny_holding (unpack_set1 hh (N _ hm).1 fun h' hk => ?_))
  have st : ∀ b o, s.heap.get? b = some o → h'.get? b = some o := fun b o e => hk b o (Nat.ne_of_lt (Heap.lt_size e)) e
  have z := h h' (F.keeps st) (N.grown st)
  show wpAny _ _ (holding [] (assign e env (.bool true)) >>= fun _ => assignInOrder [] []) _ _ _
  exact wpAny_bind (wpAny_holding (wpAny_mono z (fun _ _ q => wpAny_pure q) fun _ _ q => q))
end
end

noncomputable section
open PySem PySem.W PyProof.Rows PySem.Calls PySem.Spec PyProof.Rows.LCg
set_option maxRecDepth 100000
section
variable {prog : Program} {w : World} {A : Around} {E : Value → Shared → Prop} {s : Shared} {h₀ : Heap} {L : Addr} {m : Str → Option Value} {env : Env}
/-- the tests of one turn, the element of one turn: nothing that stood is changed -/
structure PureTurn (prog : Program) (w : World) (A : Around) (h₀ : Heap) (L : Addr) (m : Str → Option Value) (env : Env) (elt : Expr) (x : Str) (ifs : List Expr) (scope : Scope) (cl : List (Str × Addr)) (p : Value → Bool) (G : Value → Value → Prop) (vs : List Value) (news : List (Addr × Obj)) : Prop where
  tests : ∀ v C oC m₂ (s₃ : Shared) (E' : Value → Shared → Prop), v ∈ vs → NsObj oC m₂ → m₂ x = some v → Fr h₀ L s₃.heap m → News h₀ L s₃.heap ((C, oC) :: news) →
    wpAny (model prog w) A (forIn ifs true fun c r => if r = true then do let ok ← isTrue c (compEnvC scope cl C env) (eval c (compEnvC scope cl C env)); pure (ForInStep.yield ok) else pure (ForInStep.yield r)) (fun ok s₄ => ok = p v ∧ Keeps s₃ s₄) E' s₃
  elt : ∀ v C oC m₂ (s₃ : Shared) (E' : Value → Shared → Prop), v ∈ vs → p v = true → NsObj oC m₂ → m₂ x = some v → Fr h₀ L s₃.heap m → News h₀ L s₃.heap ((C, oC) :: news) →
    wpAny (model prog w) A (eval elt (compEnvC scope cl C env)) (fun y s₄ => G v y ∧ Keeps s₃ s₄) E' s₃
def PureSrc (prog : Program) (w : World) (A : Around) (h₀ : Heap) (L : Addr) (m : Str → Option Value) (env : Env) (elt : Expr) (x : Str) (ifs : List Expr) (scope : Scope) (cl : List (Str × Addr)) (p : Value → Bool) (G : Value → Value → Prop) (Fin : List Value → List (Addr × Obj) → Shared → Prop) (xv : Value) (s₁ : Shared) : Prop :=
  ∃ ax vs n news, xv = .ref ax ∧ A.handled = none ∧ Fr h₀ L s₁.heap m ∧ News h₀ L s₁.heap news ∧ (h₀.IsList ax vs.toArray ∨ (ax, listOf vs.toArray n) ∈ news) ∧ vs.length ≤ 100000 ∧
    PureTurn prog w A h₀ L m env elt x ifs scope cl p G vs news ∧ Fin vs news s₁
theorem pure_strs1 {elt c : Expr} {x : Str} {scope : Scope} {cl : List (Str × Addr)} {p : Value → Bool} {G : Value → Value → Prop} {l : List (Str × Tok)} {news : List (Addr × Obj)} {B : Nat} (hB : ∀ p ∈ l, p.1.length ≤ B)
    (ht : ∀ q t C oC m₂ (s₃ : Shared) (E' : Value → Shared → Prop), (q, t) ∈ l → q.length ≤ B → NsObj oC m₂ → m₂ x = some (.str q t) → Fr h₀ L s₃.heap m → News h₀ L s₃.heap ((C, oC) :: news) →
      wpAny (model prog w) A (isTrue c (compEnvC scope cl C env) (eval c (compEnvC scope cl C env))) (fun ok s₄ => ok = p (.str q t) ∧ Keeps s₃ s₄) E' s₃)
    (he : ∀ q t C oC m₂ (s₃ : Shared) (E' : Value → Shared → Prop), (q, t) ∈ l → q.length ≤ B → p (.str q t) = true → NsObj oC m₂ → m₂ x = some (.str q t) → Fr h₀ L s₃.heap m → News h₀ L s₃.heap ((C, oC) :: news) →
      wpAny (model prog w) A (eval elt (compEnvC scope cl C env)) (fun y s₄ => G (.str q t) y ∧ Keeps s₃ s₄) E' s₃) : PureTurn prog w A h₀ L m env elt x [c] scope cl p G (strValues l) news := by
  constructor
  · intro v C oC m₂ s₃ E' hv hC hx F N
    obtain ⟨q, hq, rfl⟩ := List.mem_map.mp hv
    exact wpAny_tests_one (ht q.1 q.2 C oC m₂ s₃ E' hq (hB q hq) hC hx F N)
  · intro v C oC m₂ s₃ E' hv hp hC hx F N
    obtain ⟨q, hq, rfl⟩ := List.mem_map.mp hv
    exact he q.1 q.2 C oC m₂ s₃ E' hq (hB q hq) hp hC hx F N
theorem paired_eq {vs ys : List Value} (h : Paired (fun v y => y = v) vs ys) : ys = vs := by
  induction h with
  | nil => rfl
  | cons h _ ih => rw [h, ih]
theorem keeps_toks {s₃ : Shared} {tk : Nat} : Keeps s₃ { s₃ with toks := tk } := ⟨_, _, rfl, fun _ _ e => e⟩
theorem keeps_self {s₃ : Shared} : Keeps s₃ s₃ := ⟨_, s₃.toks, rfl, fun _ _ e => e⟩
theorem quiet_of {elt : Expr} {x : Str} {ifs : List Expr} {scope : Scope} {cl : List (Str × Addr)} {p : Value → Bool} {G : Value → Value → Prop} {vs : List Value} {news : List (Addr × Obj)} {I : Addr} {s₂ : Shared}
    (T : PureTurn prog w A h₀ L m env elt x ifs scope cl p G vs news) (F : Fr h₀ L s₂.heap m) (N : News h₀ L s₂.heap news) (hIL : L ≠ I) (hI₀ : h₀.get? I = none) (offI : ∀ p ∈ news, p.1 ≠ I) :
    QuietOnC prog w A env scope cl x ifs elt [I] (fun i v => vs.toArray[i]? = some v) p G s₂ := by
  have key : ∀ (C : Addr) (s₃ : Shared) (m₃ : Str → Option Value), s₂.heap.objs.size ≤ C → s₃.heap.Ns C m₃ → (∀ b o, b ∉ [I] → s₂.heap.get? b = some o → s₃.heap.get? b = some o) →
      ∃ oC, NsObj oC m₃ ∧ Fr h₀ L s₃.heap m ∧ News h₀ L s₃.heap ((C, oC) :: news) := by
    intro C s₃ m₃ hC hn hk
    obtain ⟨oC, heC, hoC⟩ := ns_obj hn
    refine ⟨oC, hoC, fr_but F hk hIL hI₀, fun p hp => ?_⟩
    rcases List.mem_cons.mp hp with rfl | hp
    · refine ⟨heC, Nat.ne_of_gt (Nat.lt_of_lt_of_le F.ns.lt hC), ?_⟩
      cases q : h₀.get? C with
      | none => rfl
      | some o' => exact absurd (Heap.lt_size (F.keep _ _ q)) (Nat.not_lt.mpr hC)
    · exact news_but N hk offI p hp
  constructor
  · intro C i v s₃ m₃ E' hC hv hn hm hk _
    obtain ⟨oC, hoC, F₃, N₃⟩ := key C s₃ m₃ hC hn hk
    exact T.tests v C oC m₃ s₃ E' (List.mem_of_getElem? (by simpa using hv)) hoC hm F₃ N₃
  · intro C i v s₃ m₃ E' hC hv hpv hn hm hk _
    obtain ⟨oC, hoC, F₃, N₃⟩ := key C s₃ m₃ hC hn hk
    exact T.elt v C oC m₃ s₃ E' (List.mem_of_getElem? (by simpa using hv)) hpv hoC hm F₃ N₃
theorem vs_is {vs us : List Value} (hlen : us.length = vs.length) (hP : ∀ (j : Nat) v, us[j]? = some v → vs.toArray[j]? = some v) : us = vs := by
  refine List.ext_getElem? fun j => ?_
  cases h : us[j]? with
  | none =>
    have := List.getElem?_eq_none_iff.mp h
    exact (List.getElem?_eq_none (by omega)).symm
  | some v => exact (by simpa using hP j v h : vs[j]? = some v).symm
theorem comp_pure {elt iter : Expr} {x : Str} {px : Pos} {ifs : List Expr} {scope : Scope} {cl : List (Str × Addr)} {pos : Pos} {Q : Value → Shared → Prop} (p : Value → Bool) (G : Value → Value → Prop) (F₀ : Fr h₀ L s.heap m)
    (hclos : closureFor scope env = pure cl) (hcell : ∀ y ∈ scope.names, y.2 ≠ .cell) (hkind : scope.kind = .function)
    (hnames : ∀ y ∈ scope.names, y.2 = .local → scope.names.lookup y.1 = some .local) (hx : scope.names.lookup x = some .local)
    (h : wpAny (model prog w) A (eval iter env) (PureSrc prog w A h₀ L m env elt x ifs scope cl p G (fun vs news s₁ => ∀ D n ys h tk, Fr h₀ L h m → News h₀ L h ((D, listOf ys.toArray n) :: news) → Off1 D news → Paired G (vs.filter p) ys → Q (.ref D) { s₁ with heap := h, toks := tk })) E s)
    (hs : ∀ x, foldedSetIterable iter env x = pure x := by intro _; rfl) :
    wpAny (model prog w) A (eval (.ListComp elt [⟨.Name x px, iter, ifs, 0⟩] scope pos) env) Q E s := by
  have _ := F₀
  refine wpAny_ListComp_free p G hclos hcell hkind hnames hx (wpAny_mono h (fun xv s₁ h₁ => ?_) fun _ _ e => e) hs
  obtain ⟨ax, vs, n, news, rfl, hh, F, N, hsrc, hsz, T, fin⟩ := h₁
  have hl : s₁.heap.IsList ax vs.toArray := by
    rcases hsrc with hl | hl
    · exact hl.at fun o e => F.keep ax o e
    · exact ⟨_, (N _ hl).1, rfl, n, rfl⟩
  have hlt : ax < s₁.heap.objs.size := by obtain ⟨_, e, _⟩ := hl; exact Heap.lt_size e
  refine wpAny_pyIter_list hl ?_
  have up : ∀ b o, s₁.heap.get? b = some o → (s₁.heap.push { cls := .type "list_iterator", data := .fields #[.ref ax, .int 0 0] }).get? b = some o := fun b o e => Heap.get?_push_of_some _ e
  have hIL : L ≠ s₁.heap.objs.size := Nat.ne_of_lt F.ns.lt
  have offI : ∀ p ∈ news, p.1 ≠ s₁.heap.objs.size := fun p hp => Nat.ne_of_lt (Heap.lt_size (N p hp).1)
  refine ⟨_, _, _, vs.toArray.size, _, _, rfl, Walks.list hh s₁.heap.objs.size ax (Nat.ne_of_lt hlt) vs.toArray, by rw [List.size_toArray, sizeLine_eq]; omega, ⟨⟨_, Heap.get?_push_size _ rfl, rfl, rfl⟩, hl.push _⟩, fun b hb => ?_,
    quiet_of T (F.keeps up) (N.grown up) hIL (next_is_new F) offI, fun D h' tk ys us hD _ hpl hlen hP hF hk => ?_⟩
  · show b < (s₁.heap.push _).objs.size
    rw [Heap.size_push]
    rcases List.mem_cons.mp hb with rfl | hb
    · exact Nat.lt_succ_self _
    · rw [List.mem_singleton.mp hb]; exact Nat.lt_succ_of_lt hlt
  · have e : us = vs := vs_is (by rw [hlen, List.size_toArray]) hP
    subst e
    obtain ⟨n', hn'⟩ := hpl
    have F' := fr_but (F.keeps up) hk hIL (next_is_new F)
    have N' := news_but (N.grown up) hk offI
    have old : ∀ b, (s₁.heap.get? b).isSome = true → b ≠ D := by
      rintro b hb rfl
      obtain ⟨o, ho⟩ := Option.isSome_iff_exists.mp hb
      have := up _ _ ho
      rw [hD] at this
      cases this
    refine fin D n' ys.toList h' tk F' (fun p hp => ?_) ?_ hF
    · rcases List.mem_cons.mp hp with rfl | hp
      · refine ⟨by simpa using hn', ?_, ?_⟩
        · obtain ⟨oL, _, _, hL, _⟩ := F.ns
          exact (old L (by rw [hL]; rfl)).symm
        · cases q : h₀.get? D with
          | none => rfl
          | some o' => have := up _ _ (F.keep _ _ q); rw [hD] at this; cases this
      · exact N' p hp
    · clear N' T hsrc
      have : ∀ l : List (Addr × Obj), (∀ p ∈ l, p ∈ news) → Off1 D l := by
        intro l
        induction l with
        | nil => intro _; trivial
        | cons a r ih => intro hl; exact ⟨old _ (by rw [(N a (hl a (.head _))).1]; rfl), ih fun p hp => hl p (.tail _ hp)⟩
      exact this news fun _ h => h
end
end

noncomputable section
open PySem PySem.W PyProof.Rows PySem.Calls PySem.Spec PyProof.Rows.LCg
set_option maxRecDepth 100000
section
variable {prog : Program} {w : World} {A : Around} {E : Value → Shared → Prop} {s : Shared} {h₀ : Heap} {L : Addr} {m : Str → Option Value} {env : Env}
theorem pure_strs0 {elt : Expr} {x : Str} {scope : Scope} {cl : List (Str × Addr)} {G : Value → Value → Prop} {l : List (Str × Tok)} {news : List (Addr × Obj)} {B : Nat} (hB : ∀ p ∈ l, p.1.length ≤ B)
    (he : ∀ q t C oC m₂ (s₃ : Shared) (E' : Value → Shared → Prop), (q, t) ∈ l → q.length ≤ B → NsObj oC m₂ → m₂ x = some (.str q t) → Fr h₀ L s₃.heap m → News h₀ L s₃.heap ((C, oC) :: news) →
      wpAny (model prog w) A (eval elt (compEnvC scope cl C env)) (fun y s₄ => G (.str q t) y ∧ Keeps s₃ s₄) E' s₃) : PureTurn prog w A h₀ L m env elt x [] scope cl (fun _ => true) G (strValues l) news := by
  constructor
  · intro v C oC m₂ s₃ E' hv hC hx F N
    rw [List.forIn_nil]
    exact wpAny_pure ⟨rfl, keeps_self⟩
  · intro v C oC m₂ s₃ E' hv hp hC hx F N
    obtain ⟨q, hq, rfl⟩ := List.mem_map.mp hv
    exact he q.1 q.2 C oC m₂ s₃ E' hq (hB q hq) hC hx F N
end
end

noncomputable section
open PySem PySem.W PyProof.Rows PySem.Calls PySem.Spec PyProof.Rows.LCg
set_option maxRecDepth 100000
section
variable {prog : Program} {w : World} {A : Around} {E : Value → Shared → Prop} {s : Shared} {h₀ : Heap} {L : Addr} {m : Str → Option Value} {env : Env}
def rngObj (n : Nat) (t u v : Tok) : Obj := { cls := .type "range", data := .fields #[.int 0 t, .int n u, .int 1 v] }
theorem rng_size (n : Nat) : Builtin.Range.rangeSize 0 n 1 = (n : Int) := by
  unfold Builtin.Range.rangeSize
  rw [if_pos (by decide)]
  split
  · simp only [Int.ediv_one]; omega
  · omega
theorem fits_long {i : Int} (h0 : 0 ≤ i) (h1 : i ≤ 2000) : Builtin.Range.rangeFitsLong i = true := by
  unfold Builtin.Range.rangeFitsLong
  rw [decide_eq_true (by omega : -(2 ^ 63) ≤ i), decide_eq_true (by omega : i < 2 ^ 63)]
  rfl
theorem rng_small {n : Nat} (h : n ≤ 1000) : Builtin.Range.small 0 n 1 = true := by
  unfold Builtin.Range.small
  rw [rng_size, if_pos (by decide), fits_long (by omega) (by omega), fits_long (by omega) (by omega), fits_long (by omega) (by omega), fits_long (by omega) (by omega)]
  simp
theorem range_new {news : List (Addr × Obj)} {n : Nat} {t : Tok} {Q : Value → Shared → Prop} (F : Fr h₀ L s.heap m) (N : News h₀ L s.heap news)
    (h : ∀ D t1 t2 h' tk, Fr h₀ L h' m → News h₀ L h' ((D, rngObj n t1 t t2) :: news) → (∀ p ∈ news, p.1 < D) → Q (.ref D) { s with heap := h', toks := tk }) :
    wpAny (model prog w) A (call (.type "range") [.int (n : Int) t]) Q E s :=
  call_range_1 (h _ _ _ _ _ (F.push _) (News.push F N _) fun p hp => Heap.lt_size (N p hp).1)
end
end

noncomputable section
open PySem PySem.W PyProof.Rows PySem.Calls PySem.Spec PyProof.Rows.LCg
set_option maxRecDepth 100000
section
variable {prog : Program} {w : World} {A : Around} {E : Value → Shared → Prop} {s : Shared} {h₀ : Heap} {L : Addr} {m : Str → Option Value} {env : Env}
def LedKept (h₀ : Heap) (L : Addr) (m : Str → Option Value) (all : List (Addr × Obj)) (s s' : Shared) : Prop := ∃ h' tk', s' = { s with heap := h', toks := tk' } ∧ Fr h₀ L h' m ∧ News h₀ L h' all
theorem led_kept {all news : List (Addr × Obj)} {h' : Heap} {tk' : Nat} (F : Fr h₀ L h' m) (N : News h₀ L h' news) (sub : ∀ p ∈ all, p ∈ news) : LedKept h₀ L m all s { s with heap := h', toks := tk' } := ⟨h', tk', rfl, F, fun p hp => N p (sub p hp)⟩
theorem ints_snoc {vs : List Value} {ns : List Int} {n : Int} {t : Tok} (h : IntsAre vs ns) : IntsAre (vs ++ [.int n t]) (ns ++ [n]) := by
  induction h with
  | nil => exact .cons _ _ .nil
  | cons a b _ ih => exact .cons a b ih
/-- the source of a comprehension with one test: a range of the ledger -/
def RngSrcT (prog : Program) (w : World) (A : Around) (h₀ : Heap) (L : Addr) (m : Str → Option Value) (env : Env) (ct elt : Expr) (x : Str) (scope : Scope) (cl : List (Str × Addr)) (pz : Nat → Bool) (Fin : Nat → List (Addr × Obj) → Shared → Prop) (xv : Value) (s₁ : Shared) : Prop :=
  ∃ r n t u v news, xv = .ref r ∧ A.handled = none ∧ Fr h₀ L s₁.heap m ∧ News h₀ L s₁.heap news ∧ (r, rngObj n t u v) ∈ news ∧ n ≤ 1000 ∧
    (∀ k t I oI C oC D ys m₂ (h : Heap) (tk : Nat) (E' : Value → Shared → Prop), k < n → NsObj oC m₂ → m₂ x = some (.int ((k : Nat) : Int) t) → Fr h₀ L h m → News h₀ L h ((I, oI) :: (C, oC) :: (D, lst ys) :: news) →
      wpAny (model prog w) A (isTrue ct (compEnvC scope cl C env) (eval ct (compEnvC scope cl C env))) (fun ok s₄ => ok = pz k ∧ LedKept h₀ L m ((I, oI) :: (C, oC) :: (D, lst ys) :: news) s₁ s₄) E' { s₁ with heap := h, toks := tk }) ∧
    (∀ k t I oI C oC D ys m₂ (h : Heap) (tk : Nat) (E' : Value → Shared → Prop), k < n → NsObj oC m₂ → m₂ x = some (.int ((k : Nat) : Int) t) → Fr h₀ L h m → News h₀ L h ((I, oI) :: (C, oC) :: (D, lst ys) :: news) →
      wpAny (model prog w) A (eval elt (compEnvC scope cl C env)) (fun y s₄ => y = .int ((k : Nat) : Int) t ∧ LedKept h₀ L m ((I, oI) :: (C, oC) :: (D, lst ys) :: news) s₁ s₄) E' { s₁ with heap := h, toks := tk }) ∧ Fin n news s₁
theorem comp_rangeT {elt iter ct : Expr} {x : Str} {px : Pos} {scope : Scope} {cl : List (Str × Addr)} {pos : Pos} {Q : Value → Shared → Prop} (pz : Nat → Bool) (F₀ : Fr h₀ L s.heap m)
    (hclos : closureFor scope env = pure cl) (hcell : ∀ y ∈ scope.names, y.2 ≠ .cell) (hkind : scope.kind = .function)
    (hnames : ∀ y ∈ scope.names, y.2 = .local → scope.names.lookup y.1 = some .local) (hx : scope.names.lookup x = some .local)
    (h : wpAny (model prog w) A (eval iter env) (RngSrcT prog w A h₀ L m env ct elt x scope cl pz (fun n news s₁ => ∀ D k ys h tk, Fr h₀ L h m → News h₀ L h ((D, listOf ys.toArray k) :: news) → Off1 D news → IntsAre ys (((List.range n).filter pz).map fun k => ((k : Nat) : Int)) → Q (.ref D) { s₁ with heap := h, toks := tk })) E s)
    (hs : ∀ x, foldedSetIterable iter env x = pure x := by intro _; rfl) :
    wpAny (model prog w) A (eval (.ListComp elt [⟨.Name x px, iter, [ct], 0⟩] scope pos) env) Q E s := by
  refine LCt.ListComp_T F₀ hclos hcell hkind hnames hx (wpAny_mono h (fun xv s₁ h₁ => ?_) fun _ _ e => e) hs
  obtain ⟨r, n, t, u, v, news, rfl, hh, F, N, hr, hsz, tests, elts, fin⟩ := h₁
  have hrr : IsRange s₁.heap r 0 n 1 t u v := (N _ hr).1
  refine LCt.CompSrcT.range hh F N hrr (rng_small hsz) (rng_size n) (by rw [sizeLine_eq]; omega) fun g => ?_
  have key : ∀ (q i : Nat) (ys : List Value), n - i = q → i ≤ n → IntsAre ys (((List.range i).filter pz).map fun k => ((k : Nat) : Int)) →
      LCt.CompRestT prog w A h₀ L m env ct elt x scope cl { s₁ with heap := g } (fun _ => True) (fun i v => ∃ t, v = .int (0 + (i : Int)) t) (FinE h₀ L m { s₁ with heap := g } Q) q i ys news := by
    intro q
    induction q with
    | zero =>
      intro i ys hq hi hys
      have e : i = n := by omega
      subst e
      exact LCt.CompRestT.zero fun D h tk F' N' o1 => fin D _ ys h tk F' N' o1 hys
    | succ q ih =>
      intro i ys hq hi hys
      have hlt : i < n := by omega
      have hr1 : List.range (i + 1) = List.range i ++ [i] := List.range_succ
      refine LCt.CompRestT.succ fun v I oI C oC D m₂ h tk E' hv hC hx' F' N' off ne => ?_
      obtain ⟨tv, rfl⟩ := hv
      rw [Int.zero_add] at hx'
      refine wpAny_mono (tests i tv I oI C oC D ys m₂ h tk E' hlt hC hx' F' N') (fun ok s₄ h₄ => ?_) fun _ _ e => e
      obtain ⟨rfl, h', tk', rfl, F₂, N₂⟩ := h₄
      cases hp : pz i with
      | true =>
        rw [if_pos rfl]
        refine wpAny_mono (elts i tv I oI C oC D ys m₂ h' tk' E' hlt hC hx' F₂ N₂) (fun y s₅ h₅ => ?_) fun _ _ e => e
        obtain ⟨rfl, h'', tk'', rfl, F₃, N₃⟩ := h₅
        refine ⟨h'', tk'', news, rfl, F₃, N₃, off, trivial, ih (i + 1) _ (by omega) hlt ?_⟩
        rw [hr1, List.filter_append, List.map_append]
        simp only [List.filter_cons, hp, if_true, List.filter_nil, List.map_cons, List.map_nil]
        exact ints_snoc hys
      | false =>
        rw [if_neg (by decide)]
        refine ⟨h', tk', news, rfl, F₂, N₂, off, trivial, ih (i + 1) _ (by omega) hlt ?_⟩
        rw [hr1, List.filter_append, List.map_append]
        simp only [List.filter_cons, hp, Bool.false_eq_true, if_false, List.filter_nil, List.map_nil, List.append_nil]
        exact hys
  exact key n 0 [] rfl (Nat.zero_le _) .nil
end
end

noncomputable section
open PySem PySem.W PyProof.Rows PySem.Calls
set_option maxRecDepth 100000
set_option maxHeartbeats 8000000
example : (fun (_ : OpenLaw) (_ : Params → Frag) => True) PySem.Challenge.rw_pd0106_01 hd.heap_39 := by
  w_top off
  k_with_none
  k_fill
  trivial

local macro_rules | `(tactic| walk_at "call ref") => `(tactic| (k_here; k_dflt (refine' ctr_use (splitroot_c _ _ _ (by assumption) (by assumption) (by assumption)) ?k1 ?k2 ?k3 ?k4 ?k5 ?kK ?kd ?ku ?kp ?_; (case k1 => k_asm); (case k2 => k_asm); (case k3 => k_asm); (case k4 => k_asm); (case k5 => k_asm); (case kK => first | exact rfl | assumption); (case kd => ktr_room); (case ku => ktr_units); (case kp => trivial); intro v9 h' tk9 F9 N9 st9 e9; obtain ⟨a9, n9, t91, t92, t93, e9, hn9, ha9⟩ := e9; subst e9; have N' := news_more (by k_asm) (by k_asm) st9 hn9 ha9; (try clear st9); (try dsimp only); (try k_sweep))))

def normStep (st : List Str) (c : Str) : List Str :=
  if c.length = 0 ∨ c = Str.ofString "." then st else if c ≠ Str.ofString ".." ∨ st.getLast? = some (Str.ofString "..") then st ++ [c] else st.dropLast
local macro_rules | `(tactic| walk_at "truthy ref") => `(tactic| (k_here; (with_reducible show wpAny _ _ (truthy (Value.ref _)) _ _ _); k_dflt (refine' l_truthy ?N ?m ?z _ ?b ?_; (case N => k_asm); (case m => k_mem); (case z => first | exact Nat.le_of_ble_eq_true rfl | (first | (simp [strValues]; done) | (simp [strValues]; omega))); (case b => first | rfl | simp; rfl); k_whole); intro tk9))
local macro_rules | `(tactic| walk_at "subscriptTail Name UnaryOp ref int") => `(tactic| (k_here; (with_reducible show wpAny _ _ (subscriptTail _ _ (Value.ref _) (Value.int _ _)) _ _ _); k_dflt (refine' l_last ?N ?m ?_; (case N => k_asm); (case m => k_mem); k_whole)))
local macro_rules | `(tactic| walk_at "call builtin:list.pop") => `(tactic| (k_here; k_dflt (refine' l_pop ?F ?N ?U ?z ?_; (case F => k_asm); (case N => k_asm); (case U => k_upd); (case z => first | (simp [strValues]; done) | (simp [strValues]; omega)); k_whole); intro h' F' N'; (try k_sweep)))
local macro_rules | `(tactic| walk_at "call builtin:list.append") => `(tactic| (k_here; k_dflt (refine' l_append ?F ?N ?U ?z ?_; (case F => k_asm); (case N => k_asm); (case U => k_upd); (case z => first | (simp [strValues]; done) | (simp [strValues]; omega)); k_whole); intro h' F' N'; (try k_sweep)))
local macro_rules | `(tactic| walk_at "pyIter ref") => `(tactic| refine hold_here ?_)
local macro_rules | `(tactic| walk_at "call builtin:str.join") => `(tactic| (k_here; k_dflt (refine' l_join ?N ?m ?x ?z ?b ?_; (case N => k_asm); (case m => k_mem); (case x => decide +kernel); (case z => first | assumption | omega); (case b => first | assumption | omega); k_whole); intro t9 k9 hj9))
theorem ns_zero {st : List Str} {p : Str} (h : (p.length : Int) = 0) : normStep st p = st := by
  unfold normStep
  rw [if_pos (.inl (by omega))]
theorem ns_dot {st : List Str} {p : Str} (h : (p == Str.ofString ".") = true) : normStep st p = st := by
  unfold normStep
  rw [if_pos (.inr (eq_of_beq h))]
theorem ns_push {st : List Str} {p : Str} (h0 : (p.length : Int) ≠ 0) (h1 : (p == Str.ofString ".") = false) (h2 : (p != Str.ofString "..") = true) : normStep st p = st ++ [p] := by
  unfold normStep
  rw [if_neg (by rintro (h | h); omega; rw [h] at h1; exact absurd h1 (by decide +kernel)), if_pos (.inl (by simpa using h2))]
theorem ns_top {p : Str} (h0 : (p.length : Int) ≠ 0) (h1 : (p == Str.ofString ".") = false) (h2 : (p != Str.ofString "..") = false) : normStep [] p = [] := by
  unfold normStep
  rw [if_neg (by rintro (h | h); omega; rw [h] at h1; exact absurd h1 (by decide +kernel)), if_neg (by rintro (h | h); simp [h] at h2; cases h)]
  rfl
theorem ns_pushd {st : List Str} {p q : Str} (h0 : (p.length : Int) ≠ 0) (h1 : (p == Str.ofString ".") = false) (h3 : (q == Str.ofString "..") = true) : normStep (st ++ [q]) p = st ++ [q] ++ [p] := by
  unfold normStep
  rw [if_neg (by rintro (h | h); omega; rw [h] at h1; exact absurd h1 (by decide +kernel)), if_pos (.inr (by simpa using h3))]
theorem ns_pop {st : List Str} {p q : Str} (h0 : (p.length : Int) ≠ 0) (h1 : (p == Str.ofString ".") = false) (h2 : (p != Str.ofString "..") = false) (h3 : (q == Str.ofString "..") = false) : normStep (st ++ [q]) p = st := by
  unfold normStep
  rw [if_neg (by rintro (h | h); omega; rw [h] at h1; exact absurd h1 (by decide +kernel)), if_neg (by rintro (h | h); simp [h] at h2; simp at h; rw [h] at h3; exact absurd h3 (by decide +kernel))]
  simp
theorem normStep_len {ps : List Str} (hb : ∀ p ∈ ps, p.length ≤ 1000) : ∀ {i : Nat} {c : List Str}, c = (ps.take i).foldl normStep [] → c.length ≤ i ∧ ∀ p ∈ c, p.length ≤ 1000 := by
  intro i
  induction i with
  | zero => intro c e; subst e; simp
  | succ i ih =>
    intro c e
    obtain ⟨g1, g2⟩ := ih rfl
    rw [List.take_add_one] at e
    cases hp : ps[i]? with
    | none =>
      rw [hp] at e
      simp only [Option.toList_none, List.append_nil] at e
      subst e
      exact ⟨by omega, g2⟩
    | some p =>
      rw [hp] at e
      simp only [Option.toList_some, List.foldl_append, List.foldl_cons, List.foldl_nil] at e
      have hpl := hb p (List.mem_of_getElem? hp)
      subst e
      generalize (ps.take i).foldl normStep [] = st at g1 g2
      unfold normStep
      split
      · exact ⟨by omega, g2⟩
      · split
        · refine ⟨by simp; omega, fun q hq => ?_⟩
          rcases List.mem_append.mp hq with hq | hq
          · exact g2 q hq
          · rw [List.mem_singleton.mp hq]; exact hpl
        · refine ⟨by simp; omega, fun q hq => g2 q (List.dropLast_subset _ hq)⟩
theorem normpath_c (w : World) (x : Str) (t : Tok) (hx : x.length ≤ 1000) (hx0 : 0 < x.length) (h1 : (Txt.slice x none (some 1) != Str.ofString "/") = false) (h2 : (Txt.slice x (some 1) (some 2) != Str.ofString "/") = true)
    (ps : List Str) (hps : Txt.split (Txt.slice x (some 1) none) (Str.ofString "/") = ps) (hn : ps.length ≤ 200) (hb : ∀ p ∈ ps, p.length ≤ 1000) :
    Ctr w 129 3 (fun _ => True) [.str x t] (fun _ _ v => ∃ t', v = .str (Str.ofString "/" ++ Txt.join (Str.ofString "/") (ps.foldl normStep [])) t') := by
  intro mean mg mb dp un gd cn cs a ccd cl outer A₀ base h₀ L m s Q E B F X T hk hd hu _ hret
  walk_at "p_enter"
  k_steps
  · refine Hold.mk ?_
    rename List (Str × Tok) => l
    rename List.map _ l = Txt.split _ _ => hs
    rename ∀ a, a ∈ List.map _ l → _ => hlen
    rw [hps] at hs
    refine iter_grow (fun i c => c.map (·.1) = (ps.take i).foldl normStep []) rfl (by k_asm) (by k_asm) (by k_mem) rfl ?_ ?_
    · intro i c n v h tk I oI hv hP hI F7 N7
      obtain ⟨p, tp, rfl, hpi⟩ : ∃ p tp, v = .str p tp ∧ ps[i]? = some p := by
        unfold strValues at hv
        rw [List.getElem?_map] at hv
        obtain ⟨q, hq, rfl⟩ := Option.map_eq_some_iff.mp hv
        exact ⟨q.1, q.2, rfl, by rw [← hs, List.getElem?_map, hq]; rfl⟩
      have hpl := hb p (List.mem_of_getElem? hpi)
      have hst : (ps.take (i + 1)).foldl normStep [] = normStep (c.map (·.1)) p := by rw [List.take_add_one, hpi, hP]; simp
      have hcl : c.length ≤ 300 := by
        have := (normStep_len hb hP).1
        have h3 : i < ps.length := (List.getElem?_eq_some_iff.mp hpi).1
        simp only [List.length_map] at this
        omega
      replace hI := neN hI
      rw [hst]
      simp only [List.cons_append, List.nil_append] at N7
      clear hst hP hv hpi
      rcases List.eq_nil_or_concat c with rfl | ⟨c', q, rfl⟩
      · k_steps
        · exact grow_cont [] (by k_asm) (by k_asm) rfl (ns_dot (by assumption)).symm fun z hz => if_neg hz
        · exact grow_next [(p, tp)] (by k_asm) (by k_asm) rfl (ns_push (st := []) (by assumption) (by assumption) (by assumption)).symm fun z hz => if_neg hz
        · exact grow_next [] (by k_asm) (by k_asm) rfl (ns_top (by assumption) (by assumption) (by assumption)).symm fun z hz => if_neg hz
        · exact grow_cont [] (by k_asm) (by k_asm) rfl (ns_zero (by assumption)).symm fun z hz => if_neg hz
      · have e2 : strValues (c'.concat q) = strValues c' ++ [Value.str q.1 q.2] := by simp [strValues]
        have e3 : strValues (c'.concat q ++ [(p, tp)]) = strValues c' ++ [Value.str q.1 q.2] ++ [Value.str p tp] := by simp [strValues]
        have e4 : (c'.concat q).map (·.1) = c'.map (·.1) ++ [q.1] := by simp
        have e5 : (c'.concat q ++ [(p, tp)]).map (·.1) = c'.map (·.1) ++ [q.1] ++ [p] := by simp
        rw [e2] at N7
        rw [e4]
        simp only [List.length_concat] at hcl
        k_steps
        · exact grow_cont (c'.concat q) (by k_asm) (by k_asm) (by rw [e2]) (by rw [e4]; exact (ns_dot (by assumption)).symm) fun z hz => if_neg hz
        · exact grow_next (c'.concat q ++ [(p, tp)]) (by k_asm) (by k_asm) (by rw [e3]) (by rw [e5]; exact (ns_push (by assumption) (by assumption) (by assumption)).symm) fun z hz => if_neg hz
        · rename List.isEmpty _ = true => he
          exact absurd he (by simp)
        · exact grow_next (c'.concat q ++ [(p, tp)]) (by k_asm) (by k_asm) (by rw [e3]) (by rw [e5]; exact (ns_pushd (by assumption) (by assumption) (by assumption)).symm) fun z hz => if_neg hz
        · exact grow_next c' (by k_asm) (by k_asm) rfl (ns_pop (by assumption) (by assumption) (by assumption) (by assumption)).symm fun z hz => if_neg hz
        · exact grow_cont (c'.concat q) (by k_asm) (by k_asm) (by rw [e2]) (by rw [e4]; exact (ns_zero (by assumption)).symm) fun z hz => if_neg hz
    · intro c n u h tk hP F7 N7
      have hP2 := hP
      rw [show (strValues l).length = ps.length by rw [← hs]; simp [strValues], List.take_length] at hP
      obtain ⟨q1, q2⟩ := normStep_len hb hP2
      have q3 : c.length ≤ 200 := by
        have : (strValues l).length = ps.length := by rw [← hs]; simp [strValues]
        simp only [List.length_map] at q1
        omega
      have q4 : ∀ p ∈ c, p.1.length ≤ 1000 := fun p hp => q2 _ (List.mem_map_of_mem hp)
      clear hP2 q1 q2
      k_steps
      exact hret _ _ _ (Fr.keep (by k_asm)) ⟨_, by rw [← hP]⟩
  · omega
end

noncomputable section
open PySem PySem.W PyProof.Rows PySem.Calls
set_option maxRecDepth 100000
/-- the same for a def whose locals are captured -/
theorem code_pureC {prog : Program} {w : World} {A₀ A : Around} {s : Shared} {base h₀ : Heap} {outer : List Env} {L : Addr} {m : Str → Option Value} {env : Env} {K : Frag} {p : Program} {loose : List Str} {mean : ExcName → Option Value} {mg mb : Str → Option Value}
    {R : Result → Shared → Prop} {name qual : Str} {params : Arguments} {body : List Stmt} {scope : Scope} {dV kV doc pm cdv ct oc : Value} {an od : Option Addr} {osl : Array (Option Value)} {f : Addr} {args : Args} {binds : List (Str × Value)}
    (B : Below A₀ base outer h₀) (F : Fr h₀ L s.heap m) (X₀ : K.In h₀) (T : Top p loose mean mg mb h₀) (hA : A.frames = some (env :: outer)) (hf : env.frame = some L) (hke : env.scope.kind = .function)
    (ho : K.lookup f = some ⟨oc, od, .func (fnOf name qual params body scope dV kV doc pm an cdv ct), osl⟩) (hcd : codeIn K cdv qual = true) (hroom : A.depth < recursionLimit)
    (hbind : BindsTo s (fnOf name qual params body scope dV kV doc pm an cdv ct) args binds) (hkind : (binds.all fun y => scope.names.lookup y.1 == some .local || scope.names.lookup y.1 == some .cell) = true)
    (hnd : ((cellsFrom 0 scope.names []).map (·.1)).Nodup)
    (h : ∀ L' h₁ tk cells, Fr s.heap L' h₁ (bindL (envOfC qual scope L' f cdv).kindOf binds fun _ => none) → News s.heap L' h₁ cells →
      CellsAre (bindC (envOfC qual scope L' f cdv).kindOf binds fun _ => none) (cellsFrom (L' + 1) scope.names []) cells → Below A base (env :: outer) s.heap → K.In s.heap → Top p loose mean mg mb s.heap →
      wpAny (model prog w) (A.deeper (envOfC qual scope L' f cdv)) (execs body (envOfC qual scope L' f cdv))
        (fun fl s' => R (.ok (.ret (match fl with | .ret v => v | _ => .none))) s')
        (fun e s' => wpAny (model prog w) (A.deeper (envOfC qual scope L' f cdv)) (leaving (envOfC qual scope L' f cdv) e) (fun _ s'' => R (.error e) s'') (fun e' s'' => R (.error e') s'') s')
        { s with heap := h₁, toks := tk })
    (hco : scope.isCoroutine = false) (hgen : scope.isGenerator = false) (hk : scope.kind = .function) : codeAny (model prog w) A (.call (.ref f) args) R s := by
  have X := X₀.keeps F.keep
  have TT := T.keeps F.keep
  have B₁ := pushX B F hf hke
  refine codeAny_call_function (fd := fnOf name qual params body scope dV kV doc pm an cdv ct) (body := body) hroom (X _ _ ho) rfl hco hgen rfl (codeRec_of X hcd) (hbind _ _ _ _ ?_)
  refine wpAny_newFunctionEnv_cells hk (kindsX hkind _) fun env' he s' x => ?_
  subst he
  refine ⟨(T.nolimit.keeps F.keep).keeps x.toInCall.keep, codeAny_func ?_⟩
  obtain ⟨h₁, tk, rfl, _⟩ := x.done
  have hk₁ := x.toInCall.keep
  obtain ⟨cells, NC, Y⟩ := Cl.news (h₀ := s.heap) (Nat.le_refl _) fun n c hm => ⟨x.cell n c (lookup_of_mem_nodup (cellsFrom_names scope.names 0 (s.heap.objs.size + 1) [] [] rfl ▸ hnd) hm), x.above n c hm⟩
  exact h s.heap.objs.size h₁ tk cells ⟨x.toInCall.ns, hk₁, Nat.le_refl _⟩ NC Y ⟨hA, B₁.stays, B₁.frames⟩ X TT
end

noncomputable section
open PySem PySem.W PyProof.Rows PySem.Calls PySem.Spec
open PySem.AutoSeq1 (wpAny_loadPart')
open MeetsSeq3
set_option maxRecDepth 100000
noncomputable def ltL : List Str → List Str → Bool
  | x :: xs, y :: ys => if x == y then ltL xs ys else decide (x.cps.toList < y.cps.toList)
  | xs, ys => decide (xs.length < ys.length)
noncomputable def gtL : List Str → List Str → Bool
  | x :: xs, y :: ys => if x == y then gtL xs ys else decide (y.cps.toList < x.cps.toList)
  | xs, ys => decide (ys.length < xs.length)
theorem sv_none {c : List (Str × Tok)} {i : Nat} (h : c.length ≤ i) : (strValues c).toArray[((i : Nat) : Int).toNat]? = none := by simp [strValues]; omega
theorem sv_some {c : List (Str × Tok)} {i : Nat} {p : Str × Tok} (h : c[i]? = some p) : (strValues c).toArray[((i : Nat) : Int).toNat]? = some (.str p.1 p.2) := by simp [strValues, h]
theorem sv_size {c : List (Str × Tok)} : (strValues c).toArray.size = c.length := by simp [strValues]
theorem ltL_end {c d : List Str} (h : c = [] ∨ d = []) : ltL c d = decide (c.length < d.length) := by
  rcases h with rfl | rfl
  · cases d <;> rfl
  · cases c <;> rfl
theorem gtL_end {c d : List Str} (h : c = [] ∨ d = []) : gtL c d = decide (d.length < c.length) := by
  rcases h with rfl | rfl
  · cases d <;> rfl
  · cases c <;> rfl
theorem lt_loop (l b : Addr) (c d : List (Str × Tok)) (n n2 : Nat) (k : Nat) :
    ∀ i : Nat, c.length - i = k → i ≤ c.length → i ≤ d.length → Meets (Builtin.«list.__eq__.loop» ⟨[.ref l, .ref b, rawInt i, rawInt 0], []⟩)
      (fun _ R s => s.heap.get? l = some (listOf (strValues c).toArray n) ∧ s.heap.get? b = some (listOf (strValues d).toArray n2) ∧
        R (.ok (.ret (.bool (ltL ((c.drop i).map (·.1)) ((d.drop i).map (·.1)))))) s) := by
  have stop : ∀ i : Nat, i ≤ c.length → i ≤ d.length → (c.length = i ∨ d.length = i) → Meets (Builtin.«list.__eq__.loop» ⟨[.ref l, .ref b, rawInt i, rawInt 0], []⟩)
      (fun _ R s => s.heap.get? l = some (listOf (strValues c).toArray n) ∧ s.heap.get? b = some (listOf (strValues d).toArray n2) ∧
        R (.ok (.ret (.bool (ltL ((c.drop i).map (·.1)) ((d.drop i).map (·.1)))))) s) := by
    intro i h1 h2 h3 prog w A R s h
    obtain ⟨hp, g, dd, tk, os⟩ := s; obtain ⟨hl, hb, h⟩ := h
    have hv : ltL ((c.drop i).map (·.1)) ((d.drop i).map (·.1)) = decide (c.length < d.length) := by
      rw [ltL_end (h3.imp (fun e => by simp [← e]) (fun e => by simp [← e]))]
      simp only [List.length_map, List.length_drop]
      exact decide_eq_decide.mpr (by omega)
    rw [hv] at h
    wp_walk using wpAny_loadPart' hl, wpAny_loadPart' hb
    split
    · rename_i e0
      obtain ⟨e1, e2⟩ := Prod.mk.inj e0
      rcases h3 with e | e
      · rw [sv_none (Nat.le_of_eq e)] at e1; cases e1
      · rw [sv_none (Nat.le_of_eq e)] at e2; cases e2
    · wp_walk using wpAny_loadPart' hl, wpAny_loadPart' hb
      show R (.ok (.ret (.bool (decide ((strValues c).toArray.size < (strValues d).toArray.size))))) _
      rw [sv_size, sv_size]
      exact h
  induction k with
  | zero =>
    intro i hk h1 h2
    exact stop i h1 h2 (.inl (by omega))
  | succ k ih =>
    intro i hk h1 h2
    rcases Nat.lt_or_ge i d.length with hlt2 | hge
    · intro prog w A R s h
      obtain ⟨hp, g, dd, tk, os⟩ := s; obtain ⟨hl, hb, h⟩ := h
      have hlt : i < c.length := by omega
      have e1 := sv_some (List.getElem?_eq_getElem hlt)
      have e2 := sv_some (List.getElem?_eq_getElem hlt2)
      have d1 : c.drop i = c[i] :: c.drop (i + 1) := List.drop_eq_getElem_cons hlt
      have d2 : d.drop i = d[i] :: d.drop (i + 1) := List.drop_eq_getElem_cons hlt2
      have hc : ((i : Int) + 1) = ((i + 1 : Nat) : Int) := by push_cast; rfl
      rw [d1, d2, List.map_cons, List.map_cons, ltL] at h
      wp_walk using wpAny_loadPart' hl, wpAny_loadPart' hb
      rw [e1, e2]
      refine wpAny_bind (eqBool_str ?_)
      cases hb' : (c[i].1 == d[i].1) with
      | true =>
        rw [hb', if_pos rfl] at h
        wp_walk
        rw [hc]
        exact ⟨plainId_quiet plain_eq_loop _, codeAny_builtin entry_eq_loop (by
          rw [Around.under_plainId plain_eq_loop _]
          exact ih (i + 1) (by omega) (by omega) (by omega) prog w A R _ ⟨hl, hb, h⟩)⟩
      | false =>
        rw [hb', if_neg (by decide)] at h
        wp_walk using wpAny_loadPart' hl, wpAny_loadPart' hb
        rw [e1, e2]
        refine wpAny_bind (show wpAny _ _ (compareOp .Lt _ _) _ _ _ from lt_str ?_)
        wp_walk
        exact h
    · exact stop i h1 h2 (.inr (by omega))
theorem gt_loop (l b : Addr) (c d : List (Str × Tok)) (n n2 : Nat) (k : Nat) :
    ∀ i : Nat, c.length - i = k → i ≤ c.length → i ≤ d.length → Meets (Builtin.«list.__eq__.loop» ⟨[.ref l, .ref b, rawInt i, rawInt 4], []⟩)
      (fun _ R s => s.heap.get? l = some (listOf (strValues c).toArray n) ∧ s.heap.get? b = some (listOf (strValues d).toArray n2) ∧
        R (.ok (.ret (.bool (gtL ((c.drop i).map (·.1)) ((d.drop i).map (·.1)))))) s) := by
  have stop : ∀ i : Nat, i ≤ c.length → i ≤ d.length → (c.length = i ∨ d.length = i) → Meets (Builtin.«list.__eq__.loop» ⟨[.ref l, .ref b, rawInt i, rawInt 4], []⟩)
      (fun _ R s => s.heap.get? l = some (listOf (strValues c).toArray n) ∧ s.heap.get? b = some (listOf (strValues d).toArray n2) ∧
        R (.ok (.ret (.bool (gtL ((c.drop i).map (·.1)) ((d.drop i).map (·.1)))))) s) := by
    intro i h1 h2 h3 prog w A R s h
    obtain ⟨hp, g, dd, tk, os⟩ := s; obtain ⟨hl, hb, h⟩ := h
    have hv : gtL ((c.drop i).map (·.1)) ((d.drop i).map (·.1)) = decide (d.length < c.length) := by
      rw [gtL_end (h3.imp (fun e => by simp [← e]) (fun e => by simp [← e]))]
      simp only [List.length_map, List.length_drop]
      exact decide_eq_decide.mpr (by omega)
    rw [hv] at h
    wp_walk using wpAny_loadPart' hl, wpAny_loadPart' hb
    split
    · rename_i e0
      obtain ⟨e1, e2⟩ := Prod.mk.inj e0
      rcases h3 with e | e
      · rw [sv_none (Nat.le_of_eq e)] at e1; cases e1
      · rw [sv_none (Nat.le_of_eq e)] at e2; cases e2
    · wp_walk using wpAny_loadPart' hl, wpAny_loadPart' hb
      show R (.ok (.ret (.bool (decide ((strValues c).toArray.size > (strValues d).toArray.size))))) _
      rw [sv_size, sv_size]
      exact h
  induction k with
  | zero =>
    intro i hk h1 h2
    exact stop i h1 h2 (.inl (by omega))
  | succ k ih =>
    intro i hk h1 h2
    rcases Nat.lt_or_ge i d.length with hlt2 | hge
    · intro prog w A R s h
      obtain ⟨hp, g, dd, tk, os⟩ := s; obtain ⟨hl, hb, h⟩ := h
      have hlt : i < c.length := by omega
      have e1 := sv_some (List.getElem?_eq_getElem hlt)
      have e2 := sv_some (List.getElem?_eq_getElem hlt2)
      have d1 : c.drop i = c[i] :: c.drop (i + 1) := List.drop_eq_getElem_cons hlt
      have d2 : d.drop i = d[i] :: d.drop (i + 1) := List.drop_eq_getElem_cons hlt2
      have hc : ((i : Int) + 1) = ((i + 1 : Nat) : Int) := by push_cast; rfl
      rw [d1, d2, List.map_cons, List.map_cons, gtL] at h
      wp_walk using wpAny_loadPart' hl, wpAny_loadPart' hb
      rw [e1, e2]
      refine wpAny_bind (eqBool_str ?_)
      cases hb' : (c[i].1 == d[i].1) with
      | true =>
        rw [hb', if_pos rfl] at h
        wp_walk
        rw [hc]
        exact ⟨plainId_quiet plain_eq_loop _, codeAny_builtin entry_eq_loop (by
          rw [Around.under_plainId plain_eq_loop _]
          exact ih (i + 1) (by omega) (by omega) (by omega) prog w A R _ ⟨hl, hb, h⟩)⟩
      | false =>
        rw [hb', if_neg (by decide)] at h
        wp_walk using wpAny_loadPart' hl, wpAny_loadPart' hb
        rw [e1, e2]
        refine wpAny_bind (show wpAny _ _ (compareOp .Gt _ _) _ _ _ from P.gt_str ?_)
        wp_walk
        exact h
    · exact stop i h1 h2 (.inr (by omega))
theorem list_lt (l b : Addr) (c d : List (Str × Tok)) (n n2 : Nat) : Meets (Builtin.«list.__lt__» ⟨[.ref l, .ref b], []⟩)
      (fun _ R s => s.heap.get? l = some (listOf (strValues c).toArray n) ∧ s.heap.get? b = some (listOf (strValues d).toArray n2) ∧
        R (.ok (.ret (.bool (ltL (c.map (·.1)) (d.map (·.1)))))) s) := by
  intro prog w A R s h
  obtain ⟨hp, g, dd, tk, os⟩ := s; obtain ⟨hl, hb, h⟩ := h
  have f3 := AutoSeq1.sub_list_list
  wp_walk using wpAny_loadPart' hl, wpAny_loadPart' hb
  exact ⟨plainId_quiet plain_eq_loop _, codeAny_builtin entry_eq_loop (by
    rw [Around.under_plainId plain_eq_loop _]
    exact lt_loop l b c d n n2 _ 0 rfl (Nat.zero_le _) (Nat.zero_le _) prog w A R _ ⟨hl, hb, h⟩)⟩
theorem list_gt (l b : Addr) (c d : List (Str × Tok)) (n n2 : Nat) : Meets (Builtin.«list.__gt__» ⟨[.ref l, .ref b], []⟩)
      (fun _ R s => s.heap.get? l = some (listOf (strValues c).toArray n) ∧ s.heap.get? b = some (listOf (strValues d).toArray n2) ∧
        R (.ok (.ret (.bool (gtL (c.map (·.1)) (d.map (·.1)))))) s) := by
  intro prog w A R s h
  obtain ⟨hp, g, dd, tk, os⟩ := s; obtain ⟨hl, hb, h⟩ := h
  have f3 := AutoSeq1.sub_list_list
  wp_walk using wpAny_loadPart' hl, wpAny_loadPart' hb
  exact ⟨plainId_quiet plain_eq_loop _, codeAny_builtin entry_eq_loop (by
    rw [Around.under_plainId plain_eq_loop _]
    exact gt_loop l b c d n n2 _ 0 rfl (Nat.zero_le _) (Nat.zero_le _) prog w A R _ ⟨hl, hb, h⟩)⟩
section
variable {prog : Program} {w : World} {A : Around} {E : Value → Shared → Prop} {s : Shared}
theorem rc_lt {l b : Addr} {c d : List (Str × Tok)} {n n2 : Nat} {Q : Value → Shared → Prop} (hl : s.heap.get? l = some (listOf (strValues c).toArray n)) (hb : s.heap.get? b = some (listOf (strValues d).toArray n2)) (hu : A.units < cLine)
    (h : Q (.bool (ltL (c.map (·.1)) (d.map (·.1)))) s) : wpAny (model prog w) A (richCompare .Lt (.ref l) (.ref b)) Q E s :=
  richCompare_meets_room (op := .Lt) ⟨_, hl, rfl⟩ ⟨_, hb, rfl⟩ F.slot_list_lt F.entry_list_lt (F.args_list_lt_2 _ _) (list_lt l b c d n n2)
    ⟨hl, hb, show Value.bool _ ≠ Value.notImplemented ∧ Q (.bool _) s from ⟨(fun x => nomatch x), h⟩⟩ hu
theorem rc_gt {l b : Addr} {c d : List (Str × Tok)} {n n2 : Nat} {Q : Value → Shared → Prop} (hl : s.heap.get? l = some (listOf (strValues c).toArray n)) (hb : s.heap.get? b = some (listOf (strValues d).toArray n2)) (hu : A.units < cLine)
    (h : Q (.bool (gtL (c.map (·.1)) (d.map (·.1)))) s) : wpAny (model prog w) A (richCompare .Gt (.ref l) (.ref b)) Q E s :=
  richCompare_meets_room (op := .Gt) ⟨_, hl, rfl⟩ ⟨_, hb, rfl⟩ F.slot_list_gt F.entry_list_gt (F.args_list_gt_2 _ _) (list_gt l b c d n n2)
    ⟨hl, hb, show Value.bool _ ≠ Value.notImplemented ∧ Q (.bool _) s from ⟨(fun x => nomatch x), h⟩⟩ hu
end
end

noncomputable section
open PySem PySem.W PyProof.Rows PySem.Calls PySem.Spec
set_option maxRecDepth 100000
/-- the heaps of a min or max of two lists of texts: what stood stands, but for the iterator and the box -/
def Held (base h : Heap) (I S : Addr) : Prop := ∀ x o, x ≠ I → x ≠ S → base.get? x = some o → h.get? x = some o
def liAt (l : Addr) : Obj := { cls := .type "list_iterator", data := .fields #[.ref l, .int 0 0] }
def boxOf (vs : Array Value) (c : Nat) : Obj := { cls := .type "list", data := .seq vs c }
theorem held_i {base h h' : Heap} {I S : Addr} (hb : Held base h I S) (hk : ∀ x o, x ∉ [I] → h.get? x = some o → h'.get? x = some o) : Held base h' I S := fun x o h1 h2 e => hk x o (by simpa using h1) (hb x o h1 h2 e)
theorem held_s {base h : Heap} {I S : Addr} (f : Array Value → Array Value) (hb : Held base h I S) : Held base (h.update S (Obj.mapSeq f)) I S := fun x o h1 h2 e => (Heap.get?_update_other _ _ (Ne.symm h2)).trans (hb x o h1 h2 e)
theorem it_s {h : Heap} {I S l : Addr} {i : Nat} (f : Array Value → Array Value) (hIS : I ≠ S) (x : h.IsListIter I l i) : (h.update S (Obj.mapSeq f)).IsListIter I l i := by
  obtain ⟨o, e, r⟩ := x
  exact ⟨o, (Heap.get?_update_other _ _ (Ne.symm hIS)).trans e, r⟩
theorem box_s {h : Heap} {S : Addr} {c : Nat} {vs ws : Array Value} (hS : h.get? S = some (boxOf vs c)) : ∃ c', (h.update S (Obj.mapSeq fun _ => ws)).get? S = some (boxOf ws c') := ⟨_, Heap.get?_update_self _ hS rfl⟩
section
variable {prog : Program} {w : World} {A : Around} {E : Value → Shared → Prop} {s : Shared} {h₀ : Heap} {L l a b : Addr} {m : Str → Option Value} {news : List (Addr × Obj)} {n : Nat} {β : Bool} {base : Heap} {I S : Addr} {R : Result → Shared → Prop}
theorem name_min : (toString "min" ++ toString ".loop" : String) = "min.loop" := by decide
theorem bs_min : Builtin.Builtins.bindParams "min" ["key", "default"] 0 ⟨[], []⟩ = pure [none, none] := rfl
theorem last_min {v : Value} {c : Nat} (hh : A.handled = none) (hl : base.IsList l #[.ref a, .ref b]) (hlI : l ≠ I) (hlS : l ≠ S) (hIS : I ≠ S)
    (hb : Held base s.heap I S) (hit : s.heap.IsListIter I l 2) (hS : s.heap.get? S = some (boxOf #[v, v] c))
    (hR : ∀ h' tk, Held base h' I S → R (.ok (.ret v)) { s with heap := h', toks := tk }) : codeAny (model prog w) A (.builtin "min.loop" ⟨[.ref I, .none, .ref S], []⟩) R s := by
  have W := Walks.list (prog := prog) (w := w) (A := A.in1) hh I l hlI #[.ref a, .ref b]
  refine codeAny_builtin PySem.F.entry_min_loop ?_
  rw [Around.under_plainId PySem.F.plain_min_loop _]
  show wpAny _ A.in1 (seqItems? (.ref S) >>= _) _ _ _
  refine wpAny_bind (wpAny_seqItems hS rfl ?_)
  show wpAny _ A.in1 (tryCatch (pyNext (.ref I)) _ >>= _) _ _ _
  refine wpAny_bind (wpAny_tryCatch (W.done s _ _ ⟨hit, hl.at fun o e => hb l o hlI hlS e⟩ fun h' tk hk' => ?_))
  have hS' := hk' S _ (by simpa using hIS.symm) hS
  show wpAny _ A.in1 (updateSeq S (fun _ => #[]) >>= _) _ _ _
  refine wpAny_bind ?_
  refine wpAny_updateSeq hS' rfl (wpAny_bind (wpAny_letGo (wpAny_pure ?_)))
  exact hR _ tk (held_s _ (held_i hb hk'))
theorem second_min {c : Nat} (hh : A.handled = none) (hl : base.IsList l #[.ref a, .ref b]) (hlI : l ≠ I) (hlS : l ≠ S) (hIS : I ≠ S)
    (hcmp : ∀ (s' : Shared) (Q E : Value → Shared → Prop), Held base s'.heap I S → Q (.bool β) s' → wpAny (model prog w) A.in1 (richCompare .Lt (.ref b) (.ref a)) Q E s')
    (hb : Held base s.heap I S) (hit : s.heap.IsListIter I l 1) (hS : s.heap.get? S = some (boxOf #[.ref a, .ref a] c))
    (hR : ∀ h' tk, Held base h' I S → R (.ok (.ret (.ref (if β = true then b else a)))) { s with heap := h', toks := tk }) : codeAny (model prog w) A (.builtin "min.loop" ⟨[.ref I, .none, .ref S], []⟩) R s := by
  have W := Walks.list (prog := prog) (w := w) (A := A.in1) hh I l hlI #[.ref a, .ref b]
  refine codeAny_builtin PySem.F.entry_min_loop ?_
  rw [Around.under_plainId PySem.F.plain_min_loop _]
  show wpAny _ A.in1 (seqItems? (.ref S) >>= _) _ _ _
  refine wpAny_bind (wpAny_seqItems hS rfl ?_)
  show wpAny _ A.in1 (tryCatch (pyNext (.ref I)) _ >>= _) _ _ _
  refine wpAny_bind (wpAny_tryCatch (W.item 1 s _ _ (show (1 : Nat) < 2 by decide) ⟨hit, hl.at fun o e => hb l o hlI hlS e⟩ fun v h' tk hP hst' hk' => ?_))
  obtain rfl : Value.ref b = v := Option.some.inj hP
  have hS' := hk' S _ (by simpa using hIS.symm) hS
  have hb' := held_i hb hk'
  show wpAny _ A.in1 (tryCatch (holding [.ref b, .ref b] (richCompare .Lt (.ref b) (.ref a) >>= _)) _ >>= _) _ _ _
  refine wpAny_bind (wpAny_tryCatch (wpAny_holding (wpAny_bind (hcmp _ _ _ hb' ?_))))
  refine wpAny_bind (wpAny_holding (wpAny_truthy_bool ?_))
  refine wpAny_bind (wpAny_letGo (wpAny_pure ?_))
  cases β with
  | true =>
    simp only [if_true]
    refine wpAny_bind ?_
    obtain ⟨c', hc'⟩ := box_s (ws := #[.ref b, .ref b]) hS'
    refine wpAny_updateSeq hS' rfl (wpAny_bind (wpAny_letGo ?_))
    rw [name_min]
    exact wpAny_pure ⟨plainId_quiet PySem.F.plain_min_loop _, last_min hh hl hlI hlS hIS (held_s _ hb') (it_s _ hIS hst'.1) hc' hR⟩
  | false =>
    simp only [Bool.false_eq_true, if_false]
    refine wpAny_bind (wpAny_letGo ?_)
    rw [name_min]
    exact wpAny_pure ⟨plainId_quiet PySem.F.plain_min_loop _, last_min hh hl hlI hlS hIS hb' hst'.1 hS' hR⟩
theorem first_min {c : Nat} (hh : A.handled = none) (hl : base.IsList l #[.ref a, .ref b]) (hlI : l ≠ I) (hlS : l ≠ S) (hIS : I ≠ S)
    (hcmp : ∀ (s' : Shared) (Q E : Value → Shared → Prop), Held base s'.heap I S → Q (.bool β) s' → wpAny (model prog w) A.in1 (richCompare .Lt (.ref b) (.ref a)) Q E s')
    (hb : Held base s.heap I S) (hI : s.heap.get? I = some (liAt l)) (hS : s.heap.get? S = some (boxOf #[] c))
    (hR : ∀ h' tk, Held base h' I S → R (.ok (.ret (.ref (if β = true then b else a)))) { s with heap := h', toks := tk }) : codeAny (model prog w) A (.builtin "min.loop" ⟨[.ref I, .none, .ref S], []⟩) R s := by
  have W := Walks.list (prog := prog) (w := w) (A := A.in1) hh I l hlI #[.ref a, .ref b]
  refine codeAny_builtin PySem.F.entry_min_loop ?_
  rw [Around.under_plainId PySem.F.plain_min_loop _]
  show wpAny _ A.in1 (seqItems? (.ref S) >>= _) _ _ _
  refine wpAny_bind (wpAny_seqItems hS rfl ?_)
  show wpAny _ A.in1 (tryCatch (pyNext (.ref I)) _ >>= _) _ _ _
  refine wpAny_bind (wpAny_tryCatch (W.item 0 s _ _ (show (0 : Nat) < 2 by decide) ⟨⟨_, hI, rfl, rfl⟩, hl.at fun o e => hb l o hlI hlS e⟩ fun v h' tk hP hst' hk' => ?_))
  obtain rfl : Value.ref a = v := Option.some.inj hP
  have hS' := hk' S _ (by simpa using hIS.symm) hS
  show wpAny _ A.in1 (updateSeq S (fun _ => #[.ref a, .ref a]) >>= _) _ _ _
  refine wpAny_bind ?_
  obtain ⟨c', hc'⟩ := box_s (ws := #[.ref a, .ref a]) hS'
  refine wpAny_updateSeq hS' rfl ?_
  rw [name_min]
  exact wpAny_pure ⟨plainId_quiet PySem.F.plain_min_loop _, second_min hh hl hlI hlS hIS hcmp (held_s _ (held_i hb hk')) (it_s _ hIS hst'.1) hc' hR⟩
theorem min_texts {c d : List (Str × Tok)} {n1 n2 : Nat} {Q : Value → Shared → Prop}
    (hh : A.handled = none) (F : Fr h₀ L s.heap m) (N : News h₀ L s.heap news) (hm : (l, listOf #[.ref a, .ref b] n) ∈ news) (ha : (a, listOf (strValues c).toArray n1) ∈ news) (hb : (b, listOf (strValues d).toArray n2) ∈ news) (hu : A.units + 1 < cLine)
    (hQ : ∀ h' tk, Fr h₀ L h' m → News h₀ L h' news → Q (.ref (if ltL (d.map (·.1)) (c.map (·.1)) = true then b else a)) { s with heap := h', toks := tk }) :
    wpAny (model prog w) A (call (.builtin "min") [.ref l]) Q E s := by
  have hl : s.heap.IsList l #[.ref a, .ref b] := ⟨_, (N _ hm).1, rfl, n, rfl⟩
  have hll : l < s.heap.objs.size := Heap.lt_size (N _ hm).1
  have hS : (s.heap.push (liAt l)).objs.size = s.heap.objs.size + 1 := Heap.size_push _ _
  have e1 : l ≠ (s.heap.push (liAt l)).objs.size := by rw [hS]; exact Nat.ne_of_lt (Nat.lt_succ_of_lt hll)
  have e2 : s.heap.objs.size ≠ (s.heap.push (liAt l)).objs.size := by rw [hS]; exact Nat.ne_of_lt (Nat.lt_succ_self _)
  have back : ∀ h' : Heap, Held s.heap h' s.heap.objs.size (s.heap.push (liAt l)).objs.size → Fr h₀ L h' m ∧ News h₀ L h' news := fun h' hd => by
    have k : ∀ x o, s.heap.get? x = some o → h'.get? x = some o := fun x o e => hd x o (Nat.ne_of_lt (Heap.lt_size e)) (by rw [hS]; exact Nat.ne_of_lt (Nat.lt_succ_of_lt (Heap.lt_size e))) e
    exact ⟨F.keeps k, N.grown k⟩
  refine call_function_tree PySem.F.kind_min PySem.F.plain_min PySem.F.entry_min (PySem.F.args_min1 _) ?_
  show wpAny _ A.in1 (Builtin.Builtins.bindParams "min" ["key", "default"] 0 ⟨[], []⟩ >>= _) _ _ s
  refine wpAny_bind (wpAny_of_eq bs_min ?_)
  refine wpAny_bind (wpAny_pure ?_)
  refine wpAny_bind (wpAny_pyIter_list hl ?_)
  refine wpAny_bind (wpAny_newObj_type ?_)
  rw [name_min]
  refine wpAny_pure ⟨plainId_quiet PySem.F.plain_min_loop _, ?_⟩
  exact first_min (c := 0) (β := ltL (d.map (·.1)) (c.map (·.1))) (base := s.heap) hh hl (Nat.ne_of_lt hll) e1 e2
    (fun s' Q' E' hd hq => rc_lt ((back _ hd).2 _ hb).1 ((back _ hd).2 _ ha).1 hu hq) (fun x o h1 h2 e => Heap.get?_push_of_some _ (Heap.get?_push_of_some _ e)) (Heap.get?_push_of_some _ (Heap.get?_push_size _ rfl)) (Heap.get?_push_size _ rfl)
    fun h' tk hd => hQ h' tk (back _ hd).1 (back _ hd).2
theorem name_max : (toString "max" ++ toString ".loop" : String) = "max.loop" := by decide
theorem bs_max : Builtin.Builtins.bindParams "max" ["key", "default"] 0 ⟨[], []⟩ = pure [none, none] := rfl
theorem last_max {v : Value} {c : Nat} (hh : A.handled = none) (hl : base.IsList l #[.ref a, .ref b]) (hlI : l ≠ I) (hlS : l ≠ S) (hIS : I ≠ S)
    (hb : Held base s.heap I S) (hit : s.heap.IsListIter I l 2) (hS : s.heap.get? S = some (boxOf #[v, v] c))
    (hR : ∀ h' tk, Held base h' I S → R (.ok (.ret v)) { s with heap := h', toks := tk }) : codeAny (model prog w) A (.builtin "max.loop" ⟨[.ref I, .none, .ref S], []⟩) R s := by
  have W := Walks.list (prog := prog) (w := w) (A := A.in1) hh I l hlI #[.ref a, .ref b]
  refine codeAny_builtin PySem.F.entry_max_loop ?_
  rw [Around.under_plainId PySem.F.plain_max_loop _]
  show wpAny _ A.in1 (seqItems? (.ref S) >>= _) _ _ _
  refine wpAny_bind (wpAny_seqItems hS rfl ?_)
  show wpAny _ A.in1 (tryCatch (pyNext (.ref I)) _ >>= _) _ _ _
  refine wpAny_bind (wpAny_tryCatch (W.done s _ _ ⟨hit, hl.at fun o e => hb l o hlI hlS e⟩ fun h' tk hk' => ?_))
  have hS' := hk' S _ (by simpa using hIS.symm) hS
  show wpAny _ A.in1 (updateSeq S (fun _ => #[]) >>= _) _ _ _
  refine wpAny_bind ?_
  refine wpAny_updateSeq hS' rfl (wpAny_bind (wpAny_letGo (wpAny_pure ?_)))
  exact hR _ tk (held_s _ (held_i hb hk'))
theorem second_max {c : Nat} (hh : A.handled = none) (hl : base.IsList l #[.ref a, .ref b]) (hlI : l ≠ I) (hlS : l ≠ S) (hIS : I ≠ S)
    (hcmp : ∀ (s' : Shared) (Q E : Value → Shared → Prop), Held base s'.heap I S → Q (.bool β) s' → wpAny (model prog w) A.in1 (richCompare .Gt (.ref b) (.ref a)) Q E s')
    (hb : Held base s.heap I S) (hit : s.heap.IsListIter I l 1) (hS : s.heap.get? S = some (boxOf #[.ref a, .ref a] c))
    (hR : ∀ h' tk, Held base h' I S → R (.ok (.ret (.ref (if β = true then b else a)))) { s with heap := h', toks := tk }) : codeAny (model prog w) A (.builtin "max.loop" ⟨[.ref I, .none, .ref S], []⟩) R s := by
  have W := Walks.list (prog := prog) (w := w) (A := A.in1) hh I l hlI #[.ref a, .ref b]
  refine codeAny_builtin PySem.F.entry_max_loop ?_
  rw [Around.under_plainId PySem.F.plain_max_loop _]
  show wpAny _ A.in1 (seqItems? (.ref S) >>= _) _ _ _
  refine wpAny_bind (wpAny_seqItems hS rfl ?_)
  show wpAny _ A.in1 (tryCatch (pyNext (.ref I)) _ >>= _) _ _ _
  refine wpAny_bind (wpAny_tryCatch (W.item 1 s _ _ (show (1 : Nat) < 2 by decide) ⟨hit, hl.at fun o e => hb l o hlI hlS e⟩ fun v h' tk hP hst' hk' => ?_))
  obtain rfl : Value.ref b = v := Option.some.inj hP
  have hS' := hk' S _ (by simpa using hIS.symm) hS
  have hb' := held_i hb hk'
  show wpAny _ A.in1 (tryCatch (holding [.ref b, .ref b] (richCompare .Gt (.ref b) (.ref a) >>= _)) _ >>= _) _ _ _
  refine wpAny_bind (wpAny_tryCatch (wpAny_holding (wpAny_bind (hcmp _ _ _ hb' ?_))))
  refine wpAny_bind (wpAny_holding (wpAny_truthy_bool ?_))
  refine wpAny_bind (wpAny_letGo (wpAny_pure ?_))
  cases β with
  | true =>
    simp only [if_true]
    refine wpAny_bind ?_
    obtain ⟨c', hc'⟩ := box_s (ws := #[.ref b, .ref b]) hS'
    refine wpAny_updateSeq hS' rfl (wpAny_bind (wpAny_letGo ?_))
    rw [name_max]
    exact wpAny_pure ⟨plainId_quiet PySem.F.plain_max_loop _, last_max hh hl hlI hlS hIS (held_s _ hb') (it_s _ hIS hst'.1) hc' hR⟩
  | false =>
    simp only [Bool.false_eq_true, if_false]
    refine wpAny_bind (wpAny_letGo ?_)
    rw [name_max]
    exact wpAny_pure ⟨plainId_quiet PySem.F.plain_max_loop _, last_max hh hl hlI hlS hIS hb' hst'.1 hS' hR⟩
theorem first_max {c : Nat} (hh : A.handled = none) (hl : base.IsList l #[.ref a, .ref b]) (hlI : l ≠ I) (hlS : l ≠ S) (hIS : I ≠ S)
    (hcmp : ∀ (s' : Shared) (Q E : Value → Shared → Prop), Held base s'.heap I S → Q (.bool β) s' → wpAny (model prog w) A.in1 (richCompare .Gt (.ref b) (.ref a)) Q E s')
    (hb : Held base s.heap I S) (hI : s.heap.get? I = some (liAt l)) (hS : s.heap.get? S = some (boxOf #[] c))
    (hR : ∀ h' tk, Held base h' I S → R (.ok (.ret (.ref (if β = true then b else a)))) { s with heap := h', toks := tk }) : codeAny (model prog w) A (.builtin "max.loop" ⟨[.ref I, .none, .ref S], []⟩) R s := by
  have W := Walks.list (prog := prog) (w := w) (A := A.in1) hh I l hlI #[.ref a, .ref b]
  refine codeAny_builtin PySem.F.entry_max_loop ?_
  rw [Around.under_plainId PySem.F.plain_max_loop _]
  show wpAny _ A.in1 (seqItems? (.ref S) >>= _) _ _ _
  refine wpAny_bind (wpAny_seqItems hS rfl ?_)
  show wpAny _ A.in1 (tryCatch (pyNext (.ref I)) _ >>= _) _ _ _
  refine wpAny_bind (wpAny_tryCatch (W.item 0 s _ _ (show (0 : Nat) < 2 by decide) ⟨⟨_, hI, rfl, rfl⟩, hl.at fun o e => hb l o hlI hlS e⟩ fun v h' tk hP hst' hk' => ?_))
  obtain rfl : Value.ref a = v := Option.some.inj hP
  have hS' := hk' S _ (by simpa using hIS.symm) hS
  show wpAny _ A.in1 (updateSeq S (fun _ => #[.ref a, .ref a]) >>= _) _ _ _
  refine wpAny_bind ?_
  obtain ⟨c', hc'⟩ := box_s (ws := #[.ref a, .ref a]) hS'
  refine wpAny_updateSeq hS' rfl ?_
  rw [name_max]
  exact wpAny_pure ⟨plainId_quiet PySem.F.plain_max_loop _, second_max hh hl hlI hlS hIS hcmp (held_s _ (held_i hb hk')) (it_s _ hIS hst'.1) hc' hR⟩
theorem max_texts {c d : List (Str × Tok)} {n1 n2 : Nat} {Q : Value → Shared → Prop}
    (hh : A.handled = none) (F : Fr h₀ L s.heap m) (N : News h₀ L s.heap news) (hm : (l, listOf #[.ref a, .ref b] n) ∈ news) (ha : (a, listOf (strValues c).toArray n1) ∈ news) (hb : (b, listOf (strValues d).toArray n2) ∈ news) (hu : A.units + 1 < cLine)
    (hQ : ∀ h' tk, Fr h₀ L h' m → News h₀ L h' news → Q (.ref (if gtL (d.map (·.1)) (c.map (·.1)) = true then b else a)) { s with heap := h', toks := tk }) :
    wpAny (model prog w) A (call (.builtin "max") [.ref l]) Q E s := by
  have hl : s.heap.IsList l #[.ref a, .ref b] := ⟨_, (N _ hm).1, rfl, n, rfl⟩
  have hll : l < s.heap.objs.size := Heap.lt_size (N _ hm).1
  have hS : (s.heap.push (liAt l)).objs.size = s.heap.objs.size + 1 := Heap.size_push _ _
  have e1 : l ≠ (s.heap.push (liAt l)).objs.size := by rw [hS]; exact Nat.ne_of_lt (Nat.lt_succ_of_lt hll)
  have e2 : s.heap.objs.size ≠ (s.heap.push (liAt l)).objs.size := by rw [hS]; exact Nat.ne_of_lt (Nat.lt_succ_self _)
  have back : ∀ h' : Heap, Held s.heap h' s.heap.objs.size (s.heap.push (liAt l)).objs.size → Fr h₀ L h' m ∧ News h₀ L h' news := fun h' hd => by
    have k : ∀ x o, s.heap.get? x = some o → h'.get? x = some o := fun x o e => hd x o (Nat.ne_of_lt (Heap.lt_size e)) (by rw [hS]; exact Nat.ne_of_lt (Nat.lt_succ_of_lt (Heap.lt_size e))) e
    exact ⟨F.keeps k, N.grown k⟩
  refine call_function_tree PySem.F.kind_max PySem.F.plain_max PySem.F.entry_max (PySem.F.args_max1 _) ?_
  show wpAny _ A.in1 (Builtin.Builtins.bindParams "max" ["key", "default"] 0 ⟨[], []⟩ >>= _) _ _ s
  refine wpAny_bind (wpAny_of_eq bs_max ?_)
  refine wpAny_bind (wpAny_pure ?_)
  refine wpAny_bind (wpAny_pyIter_list hl ?_)
  refine wpAny_bind (wpAny_newObj_type ?_)
  rw [name_max]
  refine wpAny_pure ⟨plainId_quiet PySem.F.plain_max_loop _, ?_⟩
  exact first_max (c := 0) (β := gtL (d.map (·.1)) (c.map (·.1))) (base := s.heap) hh hl (Nat.ne_of_lt hll) e1 e2
    (fun s' Q' E' hd hq => rc_gt ((back _ hd).2 _ hb).1 ((back _ hd).2 _ ha).1 hu hq) (fun x o h1 h2 e => Heap.get?_push_of_some _ (Heap.get?_push_of_some _ e)) (Heap.get?_push_of_some _ (Heap.get?_push_size _ rfl)) (Heap.get?_push_size _ rfl)
    fun h' tk hd => hQ h' tk (back _ hd).1 (back _ hd).2
end
end

noncomputable section
open PySem PySem.W PyProof.Rows PySem.Calls PySem.Spec
set_option maxRecDepth 100000
section
variable {prog : Program} {w : World} {A : Around} {E : Value → Shared → Prop} {s : Shared} {env : Env} {h₀ : Heap} {body : List Stmt} {Q : Flow → Shared → Prop}
def two (xi xv : Str) (u1 u2 : Option Value) (m₀ : Str → Option Value) (y : Str) : Option Value := if y = xv then u1 else if y = xi then u2 else m₀ y
def EnumPost (h₀ : Heap) (L : Addr) (news : List (Addr × Obj)) (m₀ : Str → Option Value) (xi xv : Str) (P : Prop) (s : Shared) (Q : Flow → Shared → Prop) (f : Flow) (s₂ : Shared) : Prop :=
  match f with
  | .ret v => Q (.ret v) s₂
  | .brk => Q .next s₂
  | _ => ∃ h' tk' m', s₂ = { s with heap := h', toks := tk' } ∧ Fr h₀ L h' m' ∧ News h₀ L h' news ∧ P ∧ ∀ z, z ≠ xv → z ≠ xi → m' z = m₀ z
theorem enum_next {L : Addr} {news : List (Addr × Obj)} {m₀ m' : Str → Option Value} {xi xv : Str} {P : Prop} {h' : Heap} {tk' : Nat} (F : Fr h₀ L h' m') (N : News h₀ L h' news) (hP : P) (hm : ∀ z, z ≠ xv → z ≠ xi → m' z = m₀ z) :
    EnumPost h₀ L news m₀ xi xv P s Q .next { s with heap := h', toks := tk' } := ⟨h', tk', m', rfl, F, N, hP, hm⟩
theorem fr_two {L : Addr} {h : Heap} {m' m₀ : Str → Option Value} {xi xv : Str} (F : Fr h₀ L h m') (hm : ∀ z, z ≠ xv → z ≠ xi → m' z = m₀ z) : Fr h₀ L h (two xi xv (m' xv) (m' xi) m₀) := by
  have e : m' = two xi xv (m' xv) (m' xi) m₀ := by
    funext y
    unfold two
    by_cases h1 : y = xv
    · rw [if_pos h1, h1]
    · rw [if_neg h1]
      by_cases h2 : y = xi
      · rw [if_pos h2, h2]
      · rw [if_neg h2, hm y h1 h2]
  rw [← e]
  exact F
theorem enum_texts {elts : List Expr} {kk : Nat} {pos : Pos} {l : Addr} {c : List (Str × Tok)} {n : Nat} {m₀ : Str → Option Value} {news : List (Addr × Obj)} (xi xv : Str) (P : Nat → Prop)
    (hh : A.handled = none) (F : Fr h₀ env.locals s.heap m₀) (N : News h₀ env.locals s.heap news) (hm : (l, listOf (strValues c).toArray n) ∈ news) (hp : P 0)
    (turn : ∀ (k : Nat) (p : Str × Tok) (u1 u2 : Option Value) (T : Addr) (t : Tok) (h : Heap) (tk : Nat) (I : Addr) (oE oL : Obj), c[k]? = some p → P k → (∀ q ∈ news, q.1 < I) → IsTup h T #[.int k t, .str p.1 p.2] →
      Fr h₀ env.locals h (two xi xv u1 u2 m₀) → News h₀ env.locals h ((I + 1, oE) :: (I, oL) :: news) →
      wpAny (model prog w) A (assign (.Tuple elts kk pos) env (.ref T)) (fun _ s₂ => wpAny (model prog w) A (execs body env) (EnumPost h₀ env.locals ((I + 1, oE) :: (I, oL) :: news) m₀ xi xv (P (k + 1)) s Q) E s₂) E { s with heap := h, toks := tk })
    (done : ∀ (u1 u2 : Option Value) (h : Heap) (tk : Nat), P c.length → Fr h₀ env.locals h (two xi xv u1 u2 m₀) → News h₀ env.locals h news → Q .next { s with heap := h, toks := tk }) :
    wpAny (model prog w) A (call (.type "enumerate") [.ref l]) (fun xv' s₁ => wpAny (model prog w) A (pyIter xv') (fun it s₂ => TurnsAt prog w A h₀ env (.Tuple elts kk pos) body Q E it s₂) E s₁) E s := by
  refine ktu_enum (vs := strValues c) hh F N hm rfl rfl rfl fun I hI => ?_
  have key : ∀ (r : Nat) (k : Nat) (u1 u2 : Option Value), c.length - k = r → k ≤ c.length → P k →
      ItemsRest prog w A E h₀ env (.Tuple elts kk pos) body Q s [(I + 1, "enumerate"), (I, "list_iterator")] [(l, listOf (strValues c).toArray n)] (enumItems k ((strValues c).drop k)) (two xi xv u1 u2 m₀) news := by
    intro r
    induction r with
    | zero =>
      intro k u1 u2 hr hk hP
      have hkc : k = c.length := by omega
      have e : (strValues c).drop k = [] := List.drop_eq_nil_of_le (by simp [strValues, hkc])
      rw [e]
      exact ItemsRest.zero fun h tk F' N' => done u1 u2 h tk (hkc ▸ hP) F' N'
    | succ r ih =>
      intro k u1 u2 hr hk hP
      have hlt : k < c.length := by omega
      have e : (strValues c).drop k = .str c[k].1 c[k].2 :: (strValues c).drop (k + 1) := by
        rw [List.drop_eq_getElem_cons (by simpa [strValues] using hlt)]
        simp [strValues]
      rw [e]
      show ItemsRest prog w A E h₀ env _ body Q s _ _ (.pair (fun t => .int (k : Int) t) (.str c[k].1 c[k].2) :: enumItems (k + 1) ((strValues c).drop (k + 1))) _ _
      refine ItemsRest.pair fun T t h tk hT F' => ?_
      refine AllObj.cons fun oE _ => AllObj.cons fun oL _ => AllObj.nil fun N' => ?_
      refine wpAny_mono (turn k c[k] u1 u2 T t h tk I oE oL (List.getElem?_eq_getElem hlt) hP hI hT F' N') (fun _ s₂ h₂ => wpAny_mono h₂ (fun f s₃ p => ?_) fun _ _ e => e) fun _ _ e => e
      have fin : (∃ h' tk' m', s₃ = { s with heap := h', toks := tk' } ∧ Fr h₀ env.locals h' m' ∧ News h₀ env.locals h' ((I + 1, oE) :: (I, oL) :: news) ∧ P (k + 1) ∧ ∀ z, z ≠ xv → z ≠ xi → m' z = m₀ z) →
          UnrEndW h₀ env.locals { s with heap := h, toks := tk } [(I + 1, oE), (I, oL)] (fun m' n' => SubL [(l, listOf (strValues c).toArray n)] n' ∧ ItemsRest prog w A E h₀ env (.Tuple elts kk pos) body Q s [(I + 1, "enumerate"), (I, "list_iterator")] [(l, listOf (strValues c).toArray n)] (enumItems (k + 1) ((strValues c).drop (k + 1))) m' n') s₃ := by
        rintro ⟨h', tk', m', e, F3, N3, hP3, hm3⟩
        refine ⟨h', tk', _, news, e, fr_two F3 hm3, N3, fun q hq p hp => ?_, And.intro hm trivial, ih (k + 1) _ _ (by omega) hlt hP3⟩
        have := hI q hq
        rcases List.mem_cons.mp hp with rfl | hp
        · exact Nat.ne_of_lt (Nat.lt_succ_of_lt this)
        · rw [List.mem_singleton.mp hp]; exact Nat.ne_of_lt this
      cases f with
      | ret v => exact p
      | brk => exact p
      | next => exact fin p
      | cont => exact fin p
  have e0 : two xi xv (m₀ xv) (m₀ xi) m₀ = m₀ := by
    funext y
    unfold two
    by_cases h1 : y = xv
    · rw [if_pos h1, h1]
    · rw [if_neg h1]
      by_cases h2 : y = xi
      · rw [if_pos h2, h2]
      · rw [if_neg h2]
  have := key _ 0 (m₀ xv) (m₀ xi) rfl (Nat.zero_le _) hp
  rw [e0] at this
  exact this
end
section
variable {prog : Program} {w : World} {A : Around} {E : Value → Shared → Prop} {s : Shared} {h₀ : Heap} {L l a b : Addr} {m : Str → Option Value} {news : List (Addr × Obj)} {n : Nat}
theorem min_texts2 {c d : List (Str × Tok)} {n1 n2 : Nat} {Q : Value → Shared → Prop}
    (hh : A.handled = none) (F : Fr h₀ L s.heap m) (N : News h₀ L s.heap news) (hm : (l, listOf #[.ref a, .ref b] n) ∈ news) (ha : (a, listOf (strValues c).toArray n1) ∈ news) (hb : (b, listOf (strValues d).toArray n2) ∈ news) (hu : A.units + 1 < cLine)
    (hQ : ∀ (a1 : Addr) (c1 : List (Str × Tok)) (k1 : Nat) (h' : Heap) (tk : Nat), c1 = (if ltL (d.map (·.1)) (c.map (·.1)) = true then d else c) → Fr h₀ L h' m → News h₀ L h' ((a1, listOf (strValues c1).toArray k1) :: news) → Q (.ref a1) { s with heap := h', toks := tk }) :
    wpAny (model prog w) A (call (.builtin "min") [.ref l]) Q E s := by
  refine min_texts hh F N hm ha hb hu fun h' tk F' N' => ?_
  split
  · rename_i e
    exact hQ _ d n2 h' tk (if_pos e).symm F' (fun p hp => (List.mem_cons.mp hp).elim (fun q => q ▸ N' _ hb) (N' p))
  · rename_i e
    exact hQ _ c n1 h' tk (if_neg e).symm F' (fun p hp => (List.mem_cons.mp hp).elim (fun q => q ▸ N' _ ha) (N' p))
theorem max_texts2 {c d : List (Str × Tok)} {n1 n2 : Nat} {Q : Value → Shared → Prop}
    (hh : A.handled = none) (F : Fr h₀ L s.heap m) (N : News h₀ L s.heap news) (hm : (l, listOf #[.ref a, .ref b] n) ∈ news) (ha : (a, listOf (strValues c).toArray n1) ∈ news) (hb : (b, listOf (strValues d).toArray n2) ∈ news) (hu : A.units + 1 < cLine)
    (hQ : ∀ (a1 : Addr) (c1 : List (Str × Tok)) (k1 : Nat) (h' : Heap) (tk : Nat), c1 = (if gtL (d.map (·.1)) (c.map (·.1)) = true then d else c) → Fr h₀ L h' m → News h₀ L h' ((a1, listOf (strValues c1).toArray k1) :: news) → Q (.ref a1) { s with heap := h', toks := tk }) :
    wpAny (model prog w) A (call (.builtin "max") [.ref l]) Q E s := by
  refine max_texts hh F N hm ha hb hu fun h' tk F' N' => ?_
  split
  · rename_i e
    exact hQ _ d n2 h' tk (if_pos e).symm F' (fun p hp => (List.mem_cons.mp hp).elim (fun q => q ▸ N' _ hb) (N' p))
  · rename_i e
    exact hQ _ c n1 h' tk (if_neg e).symm F' (fun p hp => (List.mem_cons.mp hp).elim (fun q => q ▸ N' _ ha) (N' p))
theorem pick_to (c : List (Str × Tok)) (k : Nat) : kms_pick (strValues c).toArray.toList none (some (k : Int)) = strValues (c.take k) := by
  have e : kms_hi (some (k : Int)) (strValues c).length = min k (strValues c).length := by
    unfold kms_hi
    simp
    try omega
  simp only [kms_pick]
  rw [e]
  simp [kms_lo, strValues, List.map_take]
theorem l_item {c : List (Str × Tok)} {p : Str × Tok} {k : Nat} {u : Tok} {value slice : Expr} {Q : Value → Shared → Prop} (N : News h₀ L s.heap news) (hm : (a, listOf (strValues c).toArray n) ∈ news) (hx : c[k]? = some p) (hz : k ≤ 1001) (h : Q (.str p.1 p.2) s)
    (hs : subscripted slice false (.ref a) (.int (k : Int) u) = operate [.ref a, .int (k : Int) u] (getItem (.ref a) (.int (k : Int) u)) := by with_unfolding_all rfl) (hg : ∀ r, letTemporaryGo value (.ref a) r = pure () := by intro _; with_unfolding_all rfl) :
    wpAny (model prog w) A (subscriptTail value slice (.ref a) (.int (k : Int) u)) Q E s := by
  exact kim_list N hm rfl rfl (by omega) (by omega) (by simp [strValues, hx]) h hs hg
end
/-- what two lists share at their head -/
noncomputable def lcp : List Str → List Str → List Str
  | x :: xs, y :: ys => if x = y then x :: lcp xs ys else []
  | _, _ => []
theorem lcp_self : ∀ x : List Str, lcp x x = x
  | [] => rfl
  | x :: xs => by simp [lcp, lcp_self xs]
theorem lcp_comm : ∀ x y : List Str, lcp x y = lcp y x
  | [], [] => rfl
  | [], _ :: _ => rfl
  | _ :: _, [] => rfl
  | x :: xs, y :: ys => by
    simp only [lcp]
    by_cases h : x = y
    · subst h; simp [lcp_comm xs ys]
    · rw [if_neg h, if_neg (Ne.symm h)]
theorem str_tri {x y : Str} (h1 : ¬ x.cps.toList < y.cps.toList) (h2 : ¬ y.cps.toList < x.cps.toList) : x = y := by
  have h3 := List.le_antisymm (List.not_lt.mp h2) (List.not_lt.mp h1)
  cases x; cases y; exact congrArg Str.mk (Array.ext' h3)
theorem str_asym {x y : Str} (h1 : x.cps.toList < y.cps.toList) (h2 : y.cps.toList < x.cps.toList) : False := absurd h2 (List.not_lt.mpr (List.le_of_lt h1))
theorem lt_gt_eq : ∀ {x y : List Str}, ltL x y = false → gtL x y = false → x = y
  | [], [], _, _ => rfl
  | [], _ :: _, h, _ => by simp [ltL] at h
  | _ :: _, [], _, h => by simp [gtL] at h
  | x :: xs, y :: ys, h1, h2 => by
    simp only [ltL, gtL] at h1 h2
    by_cases e : x = y
    · subst e
      simp only [beq_self_eq_true, if_true] at h1 h2
      rw [lt_gt_eq h1 h2]
    · rw [if_neg (by simpa using e)] at h1 h2
      exact absurd (str_tri (of_decide_eq_false h1) (of_decide_eq_false h2)) e
theorem lt_gt_no : ∀ {x y : List Str}, ltL x y = true → gtL x y = true → False
  | [], [], h, _ => by simp [ltL] at h
  | [], _ :: _, _, h => by simp [gtL] at h
  | _ :: _, [], h, _ => by simp [ltL] at h
  | x :: xs, y :: ys, h1, h2 => by
    simp only [ltL, gtL] at h1 h2
    by_cases e : x = y
    · subst e
      simp only [beq_self_eq_true, if_true] at h1 h2
      exact lt_gt_no h1 h2
    · rw [if_neg (by simpa using e)] at h1 h2
      exact str_asym (of_decide_eq_true h1) (of_decide_eq_true h2)
theorem lt_short : ∀ {x y : List Str}, ltL x y = true → ∀ k, k < x.length → x.take k = y.take k → k < y.length
  | [], _, _, k, h, _ => by simp at h
  | _ :: _, [], h, _, _, _ => by simp [ltL] at h
  | x :: xs, y :: ys, h1, 0, _, _ => by simp
  | x :: xs, y :: ys, h1, k + 1, h2, h3 => by
    simp only [List.take_succ_cons, List.cons.injEq] at h3
    simp only [ltL, h3.1, beq_self_eq_true, if_true] at h1
    have := lt_short h1 k (by simpa using h2) h3.2
    simpa using this
theorem gt_short : ∀ {x y : List Str}, gtL y x = true → ∀ k, k < x.length → x.take k = y.take k → k < y.length
  | [], _, _, k, h, _ => by simp at h
  | _ :: _, [], h, _, _, _ => by simp [gtL] at h
  | x :: xs, y :: ys, h1, 0, _, _ => by simp
  | x :: xs, y :: ys, h1, k + 1, h2, h3 => by
    simp only [List.take_succ_cons, List.cons.injEq] at h3
    simp only [gtL, h3.1, beq_self_eq_true, if_true] at h1
    have := gt_short h1 k (by simpa using h2) h3.2
    simpa using this
/-- of the least and the greatest of two lists: the least is no longer where they agree; what they share is what the two share -/
theorem mm_facts {c d s1 s2 : List Str} (e1 : s1 = if ltL d c = true then d else c) (e2 : s2 = if gtL d c = true then d else c) :
    (∀ k, k < s1.length → s1.take k = s2.take k → k < s2.length) ∧ lcp s1 s2 = lcp c d := by
  cases h1 : ltL d c <;> cases h2 : gtL d c <;> simp only [h1, h2, if_true, Bool.false_eq_true, if_false] at e1 e2 <;> subst e1 <;> subst e2
  · have := lt_gt_eq h1 h2
    subst this
    exact ⟨fun k h _ => h, rfl⟩
  · exact ⟨gt_short h2, rfl⟩
  · exact ⟨lt_short h1, lcp_comm _ _⟩
  · exact (lt_gt_no h1 h2).elim
theorem lcp_at : ∀ {x y : List Str} {k : Nat} {p q : Str}, x.take k = y.take k → x[k]? = some p → y[k]? = some q → p ≠ q → lcp x y = x.take k
  | [], _, _, _, _, _, h, _, _ => by simp at h
  | _ :: _, [], _, _, _, _, _, h, _ => by simp at h
  | x :: xs, y :: ys, 0, p, q, _, h1, h2, h3 => by
    simp only [List.getElem?_cons_zero, Option.some.injEq] at h1 h2
    subst h1 h2
    simp [lcp, h3]
  | x :: xs, y :: ys, k + 1, p, q, h, h1, h2, h3 => by
    simp only [List.take_succ_cons, List.cons.injEq] at h
    simp only [List.getElem?_cons_succ] at h1 h2
    simp only [lcp, h.1, if_true, List.take_succ_cons, lcp_at h.2 h1 h2 h3]
theorem lcp_all : ∀ {x y : List Str}, x = y.take x.length → lcp x y = x
  | [], _, _ => by cases ‹List Str› <;> rfl
  | _ :: _, [], h => by simp at h
  | x :: xs, y :: ys, h => by
    simp only [List.length_cons, List.take_succ_cons, List.cons.injEq] at h
    simp only [lcp, h.1, if_true, lcp_all h.2]
end

noncomputable section
open PySem PySem.W PyProof.Rows PySem.Calls PySem.Spec
set_option maxRecDepth 100000
section
variable {prog : Program} {w : World} {A : Around} {E : Value → Shared → Prop} {s : Shared} {env : Env} {h₀ : Heap} {L : Addr} {m : Str → Option Value} {body : List Stmt} {Q : Flow → Shared → Prop} {news : List (Addr × Obj)}
theorem filt_b {l : List (Str × Tok)} {B : Nat} {f : Str × Tok → Bool} (hb : ∀ p ∈ l, p.1.length ≤ B) (hB : B ≤ 1000) : ∀ p ∈ l.filter f, p.1.length ≤ 1000 := fun p hp => Nat.le_trans (hb p (List.mem_filter.mp hp).1) hB
theorem filt_z {l : List (Str × Tok)} {B : Nat} {f : Str × Tok → Bool} (hb : l.length ≤ B) (hB : B ≤ 1001) : (l.filter f).length ≤ 1001 := Nat.le_trans (List.length_filter_le _ _) (Nat.le_trans hb hB)
theorem sz_le {c : List (Str × Tok)} (h : c.length ≤ 1001) : (strValues c).toArray.size ≤ sizeLine := by rw [sv_size, sizeLine_eq]; omega
theorem enum_common {elts : List Expr} {kk : Nat} {pos : Pos} {l a2 : Addr} {c d c1 c2 : List (Str × Tok)} {n n2 : Nat} {m₀ : Str → Option Value}
    (e1 : c1 = if ltL (d.map (·.1)) (c.map (·.1)) = true then d else c) (e2 : c2 = if gtL (d.map (·.1)) (c.map (·.1)) = true then d else c)
    (hc : c.length ≤ 1001) (hd : d.length ≤ 1001) (bc : ∀ p ∈ c, p.1.length ≤ 1000) (bd : ∀ p ∈ d, p.1.length ≤ 1000) (xi xv : Str)
    (hh : A.handled = none) (F : Fr h₀ env.locals s.heap m₀) (N : News h₀ env.locals s.heap news) (hm : (l, listOf (strValues c1).toArray n) ∈ news) (_hm2 : (a2, listOf (strValues c2).toArray n2) ∈ news)
    (turn : ∀ (k : Nat) (p q : Str × Tok) (u1 u2 : Option Value) (T : Addr) (t : Tok) (h : Heap) (tk : Nat) (I : Addr) (oE oL : Obj), c1[k]? = some p → c2[k]? = some q → k ≤ 1001 → c1.length ≤ 1001 → (c1.take k).length ≤ 1001 → (∀ p ∈ c1.take k, p.1.length ≤ 1000) →
      ((p.1 != q.1) = true → lcp (c.map (·.1)) (d.map (·.1)) = (c1.take k).map (·.1)) → (∀ q ∈ news, q.1 < I) → IsTup h T #[.int k t, .str p.1 p.2] →
      Fr h₀ env.locals h (two xi xv u1 u2 m₀) → News h₀ env.locals h ((I + 1, oE) :: (I, oL) :: news) →
      wpAny (model prog w) A (assign (.Tuple elts kk pos) env (.ref T)) (fun _ s₂ => wpAny (model prog w) A (execs body env) (EnumPost h₀ env.locals ((I + 1, oE) :: (I, oL) :: news) m₀ xi xv ((p.1 != q.1) = false) s Q) E s₂) E { s with heap := h, toks := tk })
    (done : ∀ (u1 u2 : Option Value) (h : Heap) (tk : Nat), lcp (c.map (·.1)) (d.map (·.1)) = c1.map (·.1) → c1.length ≤ 1001 → (∀ p ∈ c1, p.1.length ≤ 1000) → Fr h₀ env.locals h (two xi xv u1 u2 m₀) → News h₀ env.locals h news → Q .next { s with heap := h, toks := tk }) :
    wpAny (model prog w) A (call (.type "enumerate") [.ref l]) (fun xv' s₁ => wpAny (model prog w) A (pyIter xv') (fun it s₂ => TurnsAt prog w A h₀ env (.Tuple elts kk pos) body Q E it s₂) E s₁) E s := by
  have hc1 : c1.length ≤ 1001 ∧ ∀ p ∈ c1, p.1.length ≤ 1000 := by
    rw [e1]; split
    · exact ⟨hd, bd⟩
    · exact ⟨hc, bc⟩
  have hm1 : ∀ {b : Bool}, (if b = true then d else c).map (·.1) = if b = true then d.map (·.1) else c.map (·.1) := by
    intro b; cases b <;> rfl
  obtain ⟨hshort, hl⟩ := mm_facts (c := c.map (·.1)) (d := d.map (·.1)) (s1 := c1.map (·.1)) (s2 := c2.map (·.1)) (by rw [e1, hm1]) (by rw [e2, hm1])
  refine enum_texts xi xv (fun k => (c1.map (·.1)).take k = (c2.map (·.1)).take k) hh F N hm rfl ?_ ?_
  · intro k p u1 u2 T t h tk I oE oL hp hP hI hT F' N'
    have hlt : k < c1.length := (List.getElem?_eq_some_iff.mp hp).1
    have hlt2 : k < c2.length := by
      have := hshort k (by simpa using hlt) hP
      simpa using this
    have hq : c2[k]? = some c2[k] := List.getElem?_eq_getElem hlt2
    have hp' : (c1.map (·.1))[k]? = some p.1 := by rw [List.getElem?_map, hp]; rfl
    have hq' : (c2.map (·.1))[k]? = some c2[k].1 := by rw [List.getElem?_map, hq]; rfl
    refine wpAny_mono (turn k p c2[k] u1 u2 T t h tk I oE oL hp hq (by omega) hc1.1 (by simp; omega) (fun p hp => hc1.2 p (List.mem_of_mem_take hp)) (fun hne => ?_) hI hT F' N') (fun _ s₂ h₂ => wpAny_mono h₂ (fun f s₃ p' => ?_) fun _ _ e => e) fun _ _ e => e
    · rw [← hl, lcp_at hP hp' hq' (by simpa using hne), List.map_take]
    · have fin : (∃ h' tk' m', s₃ = { s with heap := h', toks := tk' } ∧ Fr h₀ env.locals h' m' ∧ News h₀ env.locals h' ((I + 1, oE) :: (I, oL) :: news) ∧ (p.1 != c2[k].1) = false ∧ ∀ z, z ≠ xv → z ≠ xi → m' z = m₀ z) →
          ∃ h' tk' m', s₃ = { s with heap := h', toks := tk' } ∧ Fr h₀ env.locals h' m' ∧ News h₀ env.locals h' ((I + 1, oE) :: (I, oL) :: news) ∧ (c1.map (·.1)).take (k + 1) = (c2.map (·.1)).take (k + 1) ∧ ∀ z, z ≠ xv → z ≠ xi → m' z = m₀ z := by
        rintro ⟨h', tk', m', e, F3, N3, hP3, hm3⟩
        refine ⟨h', tk', m', e, F3, N3, ?_, hm3⟩
        rw [List.take_add_one, List.take_add_one, hP, hp', hq', show p.1 = c2[k].1 by simpa using hP3]
      cases f with
      | ret v => exact p'
      | brk => exact p'
      | next => exact fin p'
      | cont => exact fin p'
  · intro u1 u2 h tk hP F' N'
    refine done u1 u2 h tk ?_ hc1.1 hc1.2 F' N'
    rw [← hl]
    refine lcp_all ?_
    rw [List.length_map]
    rw [← hP]
    exact (List.take_of_length_le (by simp)).symm
end
end

noncomputable section
open PySem PySem.W PyProof.Rows PySem.Calls PySem.Spec
set_option maxRecDepth 100000
/-- a row of eight: what a turn of the told and of the due list hands in -/
structure Row where
  t : Str
  b1 : Bool
  b2 : Bool
  c1 : Str
  b3 : Bool
  b4 : Bool
  c2 : Str
  n : Int
def RowV (r : Row) (q : Addr × List Value) : Prop := ∃ k1 k2 k3 k4, q.2 = [.str r.t k1, .bool r.b1, .bool r.b2, .str r.c1 k2, .bool r.b3, .bool r.b4, .str r.c2 k3, .int r.n k4]
inductive RowsV : List Row → List (Addr × List Value) → Prop
  | nil : RowsV [] []
  | cons {r q rs qs} : RowV r q → RowsV rs qs → RowsV (r :: rs) (q :: qs)
theorem RowsV.snoc {r : Row} {q : Addr × List Value} (h : RowV r q) : ∀ {rs qs}, RowsV rs qs → RowsV (rs ++ [r]) (qs ++ [q])
  | _, _, .nil => .cons h .nil
  | _, _, .cons h1 h2 => .cons h1 (h2.snoc h)
def refsOf (qs : List (Addr × List Value)) : List Value := qs.map fun q => .ref q.1
def rsOf (qs : List (Addr × List Value)) : List (Addr × Obj) := qs.map fun q => (q.1, listOf q.2.toArray 0)
theorem refsOf_snoc (qs : List (Addr × List Value)) (q : Addr × List Value) : refsOf (qs ++ [q]) = refsOf qs ++ [Value.ref q.1] := by simp [refsOf]
theorem rsOf_snoc (qs : List (Addr × List Value)) (q : Addr × List Value) : rsOf (qs ++ [q]) = rsOf qs ++ [(q.1, listOf q.2.toArray 0)] := by simp [rsOf]
section
variable {prog : Program} {w : World} {A : Around} {E : Value → Shared → Prop} {s : Shared} {env : Env} {h₀ : Heap} {x : Str} {body : List Stmt} {Q : Flow → Shared → Prop}
def RowsPost {τ : Type} (h₀ : Heap) (L : Addr) (R I : Addr) (oI : Obj) (X : τ → List (Addr × Obj)) (rest : List (Addr × Obj)) (qs : List (Addr × List Value)) (ps : τ → List (Str × Value)) (stored : List Str) (m₀ : Str → Option Value) (x : Str) (P : List (Addr × List Value) → τ → Prop) (s : Shared) (Q : Flow → Shared → Prop) (f : Flow) (s₂ : Shared) : Prop :=
  match f with
  | .ret v => Q (.ret v) s₂
  | .brk => Q .next s₂
  | _ => ∃ (c : τ) (q : Addr × List Value) (n : Nat) (h' : Heap) (tk' : Nat) (m' : Str → Option Value) (news : List (Addr × Obj)), s₂ = { s with heap := h', toks := tk' } ∧ Fr h₀ L h' m' ∧ News h₀ L h' news ∧
      (R, listOf (refsOf qs ++ [Value.ref q.1]).toArray n) ∈ news ∧ (q.1, listOf q.2.toArray 0) ∈ news ∧ (I, oI) ∈ news ∧ (∀ p ∈ X c, p ∈ news ∧ p.1 ≠ I ∧ p.1 ≠ R) ∧ (∀ p ∈ rest, p ∈ news) ∧ q.1 ≠ R ∧ q.1 ≠ I ∧ P (qs ++ [q]) c ∧
      (∀ p ∈ ps c, m' p.1 = some p.2) ∧ ∀ z, z ≠ x → (∀ p ∈ ps c, z ≠ p.1) → stored.contains z = false → m' z = m₀ z
theorem rows_next {τ : Type} {L R I : Addr} {oI : Obj} {X : τ → List (Addr × Obj)} {rest news : List (Addr × Obj)} {qs : List (Addr × List Value)} {ps : τ → List (Str × Value)} {stored : List Str} {m₀ m' : Str → Option Value} {P : List (Addr × List Value) → τ → Prop} {h' : Heap} {tk' n' : Nat} (c : τ) (a : Addr) (vals : List Value)
    (F : Fr h₀ L h' m') (N : News h₀ L h' news) (e1 : (R, listOf (refsOf qs ++ [Value.ref a]).toArray n') ∈ news) (e2 : (a, listOf vals.toArray 0) ∈ news) (e3 : (I, oI) ∈ news) (e4 : ∀ p ∈ X c, p ∈ news ∧ p.1 ≠ I ∧ p.1 ≠ R) (e5 : ∀ p ∈ rest, p ∈ news) (e6 : a ≠ R) (e7 : a ≠ I) (e8 : P (qs ++ [(a, vals)]) c)
    (g1 : ∀ p ∈ ps c, m' p.1 = some p.2) (g2 : ∀ z, z ≠ x → (∀ p ∈ ps c, z ≠ p.1) → stored.contains z = false → m' z = m₀ z) : RowsPost h₀ L R I oI X rest qs ps stored m₀ x P s Q .next { s with heap := h', toks := tk' } :=
  ⟨c, (a, vals), n', h', tk', m', news, rfl, F, N, e1, e2, e3, e4, e5, e6, e7, e8, g1, g2⟩
theorem iter_rows {τ : Type} {l R : Addr} {vs : List Value} {k₀ : Nat} {m₀ : Str → Option Value} {K news : List (Addr × Obj)} (X : τ → List (Addr × Obj)) (ps : τ → List (Str × Value)) (stored : List Str) (P : Nat → List (Addr × List Value) → τ → Prop) (c₀ : τ)
    (hh : A.handled = none) (F : Fr h₀ env.locals s.heap m₀) (N : News h₀ env.locals s.heap news) (hR : (R, listOf #[] k₀) ∈ news) (hX : ∀ p ∈ X c₀, p ∈ news ∧ p.1 ≠ R) (hK : ∀ p ∈ K, p ∈ news ∧ p.1 ≠ R) (hl : h₀.IsList l vs.toArray)
    (hk : ∀ p ∈ ps c₀, m₀ p.1 = some p.2) (hp : P 0 [] c₀)
    (turn : ∀ (i : Nat) (qs : List (Addr × List Value)) (n : Nat) (c : τ) (v : Value) (u : Str → Option Value) (h : Heap) (tk : Nat) (I : Addr) (oI : Obj), vs[i]? = some v → P i qs c → (∀ p ∈ X c, p.1 ≠ I ∧ p.1 ≠ R) → (∀ p ∈ K, p.1 ≠ I ∧ p.1 ≠ R) → (∀ p ∈ rsOf qs, p.1 ≠ I) → (∀ p ∈ rsOf qs, p.1 ≠ R) → R ≠ I →
      Fr h₀ env.locals h (fun y => if y = x then some v else kstB (fun z => if stored.contains z then u z else m₀ z) (ps c) y) → News h₀ env.locals h ((R, listOf (refsOf qs).toArray n) :: (I, oI) :: (X c ++ (K ++ rsOf qs))) →
      wpAny (model prog w) A (execs body env) (RowsPost h₀ env.locals R I oI X (K ++ rsOf qs) qs ps stored m₀ x (P (i + 1)) s Q) E { s with heap := h, toks := tk })
    (done : ∀ (qs : List (Addr × List Value)) (n : Nat) (c : τ) (u : Str → Option Value) (h : Heap) (tk : Nat), P vs.length qs c → Fr h₀ env.locals h (fun y => if y = x then u y else kstB (fun z => if stored.contains z then u z else m₀ z) (ps c) y) →
      News h₀ env.locals h ((R, listOf (refsOf qs).toArray n) :: (X c ++ (K ++ rsOf qs))) → Q .next { s with heap := h, toks := tk }) :
    wpAny (model prog w) A (pyIter (.ref l)) (fun it s₂ => LoopAtV prog w A h₀ env x body Q E it s₂) E s := by
  refine iter_led (n₀ := 0) (σ := List (Addr × List Value) × Nat × τ) (fun c => (R, listOf (refsOf c.1).toArray c.2.1) :: (X c.2.2 ++ (K ++ rsOf c.1))) (fun c => ps c.2.2) stored
    (fun i c => P i c.1 c.2.2 ∧ (∀ p ∈ X c.2.2, p.1 ≠ R) ∧ ∀ p ∈ rsOf c.1, p.1 ≠ R) ([], k₀, c₀) hh F N ?_ (.inl hl) hk ⟨hp, fun p hp => (hX p hp).2, by simp [rsOf]⟩ ?_ ?_
  · intro p hp
    rcases List.mem_cons.mp hp with rfl | hp
    · exact hR
    · rcases List.mem_append.mp hp with hp | hp
      · exact (hX p hp).1
      · rcases List.mem_append.mp hp with hp | hp
        · exact (hK p hp).1
        · simp [rsOf] at hp
  · rintro i ⟨qs, n, c⟩ v u h tk I oI hv ⟨hP, hXR, hqR⟩ hI F7 N7
    have N8 : News h₀ env.locals h ((R, listOf (refsOf qs).toArray n) :: (I, oI) :: (X c ++ (K ++ rsOf qs))) := by
      intro p hp
      refine N7 p ?_
      rcases List.mem_cons.mp hp with rfl | hp
      · exact List.mem_append_left _ (.head _)
      · rcases List.mem_cons.mp hp with rfl | hp
        · exact List.mem_append_right _ (.head _)
        · exact List.mem_append_left _ (.tail _ hp)
    have hXI : ∀ p ∈ X c, p.1 ≠ I := fun p hp => hI p (.tail _ (List.mem_append_left _ hp))
    have hKI : ∀ p ∈ K, p.1 ≠ I := fun p hp => hI p (.tail _ (List.mem_append_right _ (List.mem_append_left _ hp)))
    have hqI : ∀ p ∈ rsOf qs, p.1 ≠ I := fun p hp => hI p (.tail _ (List.mem_append_right _ (List.mem_append_right _ hp)))
    have hRI : R ≠ I := hI (R, listOf (refsOf qs).toArray n) (.head _)
    refine wpAny_mono (turn i qs n c v u h tk I oI hv hP (fun p hp => ⟨hXI p hp, hXR p hp⟩) (fun p hp => ⟨hKI p hp, (hK p hp).2⟩) hqI hqR hRI F7 N8) (fun f s₂ p => ?_) fun _ _ e => e
    have fin : (∃ (c : τ) (q : Addr × List Value) (n : Nat) (h' : Heap) (tk' : Nat) (m' : Str → Option Value) (news : List (Addr × Obj)), s₂ = { s with heap := h', toks := tk' } ∧ Fr h₀ env.locals h' m' ∧ News h₀ env.locals h' news ∧
        (R, listOf (refsOf qs ++ [Value.ref q.1]).toArray n) ∈ news ∧ (q.1, listOf q.2.toArray 0) ∈ news ∧ (I, oI) ∈ news ∧ (∀ p ∈ X c, p ∈ news ∧ p.1 ≠ I ∧ p.1 ≠ R) ∧ (∀ p ∈ K ++ rsOf qs, p ∈ news) ∧ q.1 ≠ R ∧ q.1 ≠ I ∧ P (i + 1) (qs ++ [q]) c ∧
        (∀ p ∈ ps c, m' p.1 = some p.2) ∧ ∀ z, z ≠ x → (∀ p ∈ ps c, z ≠ p.1) → stored.contains z = false → m' z = m₀ z) →
        TurnEnd h₀ env.locals (fun c : List (Addr × List Value) × Nat × τ => (R, listOf (refsOf c.1).toArray c.2.1) :: (X c.2.2 ++ (K ++ rsOf c.1))) (fun c => ps c.2.2) stored m₀ x I oI (fun c => P (i + 1) c.1 c.2.2 ∧ (∀ p ∈ X c.2.2, p.1 ≠ R) ∧ ∀ p ∈ rsOf c.1, p.1 ≠ R) s s₂ := by
      rintro ⟨c', q, n', h', tk', m', news', e, F', N', e1, e2, e3, e4, e5, e6, e7, hP', g1, g2⟩
      refine ⟨(qs ++ [q], n', c'), h', tk', m', news', e, F', N', ?_, e3, ?_, ⟨hP', fun p hp => (e4 p hp).2.2, ?_⟩, g1, g2⟩
      · intro p hp
        rcases List.mem_cons.mp hp with rfl | hp
        · rw [refsOf_snoc]; exact e1
        · rcases List.mem_append.mp hp with hp | hp
          · exact (e4 p hp).1
          · rcases List.mem_append.mp hp with hp | hp
            · exact e5 p (List.mem_append_left _ hp)
            · rw [rsOf_snoc] at hp
              rcases List.mem_append.mp hp with hp | hp
              · exact e5 p (List.mem_append_right _ hp)
              · rw [List.mem_singleton.mp hp]; exact e2
      · intro p hp
        rcases List.mem_cons.mp hp with rfl | hp
        · exact hRI
        · rcases List.mem_append.mp hp with hp | hp
          · exact (e4 p hp).2.1
          · rcases List.mem_append.mp hp with hp | hp
            · exact hKI p hp
            · rw [rsOf_snoc] at hp
              rcases List.mem_append.mp hp with hp | hp
              · exact hqI p hp
              · rw [List.mem_singleton.mp hp]; exact e7
      · intro p hp
        rw [rsOf_snoc] at hp
        rcases List.mem_append.mp hp with hp | hp
        · exact hqR p hp
        · rw [List.mem_singleton.mp hp]; exact e6
    cases f with
    | ret v => exact p
    | brk => exact p
    | next => exact fin p
    | cont => exact fin p
  · rintro ⟨qs, n, c⟩ u h tk ⟨hP, _, _⟩ F7 N7
    exact done qs n c u h tk hP F7 N7
theorem iter_rows' {τ : Type} {l R : Addr} {vs : List Value} {k₀ : Nat} {m₀ : Str → Option Value} {K : List (Addr × Obj)} (X : τ → List (Addr × Obj)) (ps : τ → List (Str × Value)) (stored : List Str) (P : Nat → List (Addr × List Value) → τ → Prop) (c₀ : τ)
    (hh : A.handled = none) (F : Fr h₀ env.locals s.heap m₀) (N : News h₀ env.locals s.heap ((R, listOf #[] k₀) :: K)) (hKR : ∀ p ∈ K, p.1 ≠ R) (hX : ∀ p ∈ X c₀, p ∈ K) (hl : h₀.IsList l vs.toArray)
    (hk : ∀ p ∈ ps c₀, m₀ p.1 = some p.2) (hp : P 0 [] c₀)
    (turn : ∀ (i : Nat) (qs : List (Addr × List Value)) (n : Nat) (c : τ) (v : Value) (u : Str → Option Value) (h : Heap) (tk : Nat) (I : Addr) (oI : Obj), vs[i]? = some v → P i qs c → (∀ p ∈ X c, p.1 ≠ I ∧ p.1 ≠ R) → (∀ p ∈ K, p.1 ≠ I ∧ p.1 ≠ R) → (∀ p ∈ rsOf qs, p.1 ≠ I) → (∀ p ∈ rsOf qs, p.1 ≠ R) → R ≠ I →
      Fr h₀ env.locals h (fun y => if y = x then some v else kstB (fun z => if stored.contains z then u z else m₀ z) (ps c) y) → News h₀ env.locals h ((R, listOf (refsOf qs).toArray n) :: (I, oI) :: (X c ++ (K ++ rsOf qs))) →
      wpAny (model prog w) A (execs body env) (RowsPost h₀ env.locals R I oI X (K ++ rsOf qs) qs ps stored m₀ x (P (i + 1)) s Q) E { s with heap := h, toks := tk })
    (done : ∀ (qs : List (Addr × List Value)) (n : Nat) (c : τ) (u : Str → Option Value) (h : Heap) (tk : Nat), P vs.length qs c → Fr h₀ env.locals h (fun y => if y = x then u y else kstB (fun z => if stored.contains z then u z else m₀ z) (ps c) y) →
      News h₀ env.locals h ((R, listOf (refsOf qs).toArray n) :: (X c ++ (K ++ rsOf qs))) → Q .next { s with heap := h, toks := tk }) :
    wpAny (model prog w) A (pyIter (.ref l)) (fun it s₂ => LoopAtV prog w A h₀ env x body Q E it s₂) E s :=
  iter_rows X ps stored P c₀ hh F N (.head _) (fun p hp => ⟨.tail _ (hX p hp), hKR p (hX p hp)⟩) (fun p hp => ⟨.tail _ hp, hKR p hp⟩) hl hk hp turn done
end
end

noncomputable section
open PySem PySem.W PyProof.Rows PySem.Calls PySem.SeqAt
set_option maxRecDepth 100000
set_option maxHeartbeats 4000000
example : (fun (_ : OpenLaw) (_ : Params → Frag) => True) PySem.Challenge.rw_pd0106_01 hd.heap_39 := by
  w_top off
  k_with_none
  k_fill
  trivial
def stepTab : List Str := [Str.ofString "a", Str.ofString "b", Str.ofString "..", Str.ofString ".", Str.ofString "", Str.ofString "../a", Str.ofString "/ab", Str.ofString "ab/", Str.ofString "/a/b", Str.ofString "../.."]
def stepF (i : Int) : Str := stepTab.getD (i.fmod 10).toNat Str.empty
def namesTab : List (List Str) := [[], [Str.ofString "a"], [Str.ofString "a", Str.ofString "b"], [Str.ofString "ab"], [Str.ofString "a", Str.ofString "a", Str.ofString "b"], [Str.ofString "b", Str.ofString "a"], [Str.ofString "ab", Str.ofString "a"], [Str.ofString "b", Str.ofString "a", Str.ofString "b"]]
def namesF (i : Int) : List Str := namesTab.getD (i.fmod 8).toNat []
theorem namesF_at {i : Int} {j : Nat} {c : List (Str × Tok)} {x : List Str} (h : i.fmod 8 = (j : Int)) (hx : namesTab.getD j [] = x) (hc : c.map (·.1) = x) : c.map (·.1) = namesF i := by
  unfold namesF
  rw [h, Int.toNat_natCast, hx, hc]
theorem law_step_c (w : World) (i : Int) (t : Tok) : Ctr w 198 1 (fun _ => True) [.int i t] (fun _ _ v => ∃ t', v = .str (stepF i) t') := by
  intro mean mg mb dp un gd cn cs a' ccd cl outer A₀ base h₀ L m s Q E B F X T hk hd hu _ hret
  walk_at "p_enter"
  k_steps
  exact hret _ _ _ (Fr.keep (by k_asm)) ⟨_, rfl⟩
theorem law_folder_c (w : World) (i : Int) (t : Tok) : Ctr w 191 1 (fun _ => True) [.int i t] (fun h h' v => ∃ a c n, v = .ref a ∧ h.get? a = none ∧ h'.get? a = some (listOf (strValues c).toArray n) ∧ c.map (·.1) = namesF i) := by
  intro mean mg mb dp un gd cn cs a' ccd cl outer A₀ base h₀ L m s Q E B F X T hk hd hu _ hret
  walk_at "p_enter"
  k_steps
  · exact hret _ _ _ (Fr.keep (by k_asm)) ⟨_, [], _, rfl, News.fresh (by k_asm) (by k_mem), News.get (by k_asm) (by k_mem), namesF_at (j := 0) (by assumption) rfl rfl⟩
  · exact hret _ _ _ (Fr.keep (by k_asm)) ⟨_, [(Str.ofString "a", _)], _, rfl, News.fresh (by k_asm) (by k_mem), News.get (by k_asm) (by k_mem), namesF_at (j := 1) (by assumption) rfl rfl⟩
  · exact hret _ _ _ (Fr.keep (by k_asm)) ⟨_, [(Str.ofString "a", _), (Str.ofString "b", _)], _, rfl, News.fresh (by k_asm) (by k_mem), News.get (by k_asm) (by k_mem), namesF_at (j := 2) (by assumption) rfl rfl⟩
  · exact hret _ _ _ (Fr.keep (by k_asm)) ⟨_, [(Str.ofString "ab", _)], _, rfl, News.fresh (by k_asm) (by k_mem), News.get (by k_asm) (by k_mem), namesF_at (j := 3) (by assumption) rfl rfl⟩
  · exact hret _ _ _ (Fr.keep (by k_asm)) ⟨_, [(Str.ofString "a", _), (Str.ofString "a", _), (Str.ofString "b", _)], _, rfl, News.fresh (by k_asm) (by k_mem), News.get (by k_asm) (by k_mem), namesF_at (j := 4) (by assumption) rfl rfl⟩
  · exact hret _ _ _ (Fr.keep (by k_asm)) ⟨_, [(Str.ofString "b", _), (Str.ofString "a", _)], _, rfl, News.fresh (by k_asm) (by k_mem), News.get (by k_asm) (by k_mem), namesF_at (j := 5) (by assumption) rfl rfl⟩
  · exact hret _ _ _ (Fr.keep (by k_asm)) ⟨_, [(Str.ofString "ab", _), (Str.ofString "a", _)], _, rfl, News.fresh (by k_asm) (by k_mem), News.get (by k_asm) (by k_mem), namesF_at (j := 6) (by assumption) rfl rfl⟩
  · exact hret _ _ _ (Fr.keep (by k_asm)) ⟨_, [(Str.ofString "b", _), (Str.ofString "a", _), (Str.ofString "b", _)], _, rfl, News.fresh (by k_asm) (by k_mem), News.get (by k_asm) (by k_mem), namesF_at (j := 7) (by assumption) rfl rfl⟩
end

section
open PySem PySem.W PyProof.Rows PySem.Calls PySem.SeqAt
local macro_rules | `(tactic| walk_at "newList") => `(tactic| (k_here; k_dflt (refine' l_new ?F ?N ?z ?_; (case F => k_asm); (case N => k_asm); (case z => exact Nat.le_of_ble_eq_true rfl); k_whole); intro D' h' F' N' l1; (try k_lt l1); (try k_sweep)))
local macro_rules | `(tactic| walk_at "And") => `(tactic| ((with_reducible show _ = Value.str _ _ ∧ Keeps _ _); exact ⟨rfl, (by with_reducible first | exact keeps_toks | exact keeps_self)⟩))
local macro_rules | `(tactic| k_ne) => `(tactic| (refine neN ?_; (try dsimp only); first | with_reducible assumption | exact Ne.symm (by with_reducible assumption) | omega))
local macro_rules | `(tactic| walk_at "pyIter ref") => `(tactic| refine hold_here ?_)
local macro_rules | `(tactic| walk_at "call builtin:str.join") => `(tactic| (k_here; k_dflt (refine' l_join ?N ?m ?x ?z ?b ?_; (case N => k_asm); (case m => k_mem); (case x => decide +kernel); (case z => exact Nat.le_trans (by with_reducible assumption) (Nat.le_of_ble_eq_true rfl)); (case b => with_reducible assumption); k_whole); intro t9 k9 hj9))
noncomputable section
open PySem PySem.W PyProof.Rows PySem.Calls
set_option maxRecDepth 100000
set_option maxHeartbeats 8000000
local macro_rules | `(tactic| walk_at $s:str) => `(tactic| k_extra $s)
example : (fun (_ : OpenLaw) (_ : Params → Frag) => True) PySem.Challenge.rw_pd0106_01 hd.heap_39 := by
  w_top off
  k_with_none
  k_fill
  trivial

section
variable {prog : Program} {w : World} {A : Around} {E : Value → Shared → Prop} {s : Shared} {h₀ : Heap} {L l : Addr} {m : Str → Option Value} {news news' : List (Addr × Obj)} {n : Nat} {v : Value}
def notDot : Value → Bool
  | .str q _ => q.length != 0 && q != Str.ofString "."
  | _ => false
theorem nd_t {q : Str} {t : Tok} {b : Bool} (h0 : (q.length : Int) ≠ 0) (h1 : (q != Str.ofString ".") = b) : b = notDot (.str q t) := by
  subst h1
  have : (q.length != 0) = true := by simp; omega
  simp only [notDot, this, Bool.true_and]
theorem nd_f {q : Str} {t : Tok} (h0 : (q.length : Int) = 0) : false = notDot (.str q t) := by
  have : (q.length != 0) = false := by simp; omega
  simp only [notDot, this, Bool.false_and]
def isWord (q : Str) : Bool := q.length != 0 && q != Str.ofString "."
theorem strValues_filter (l : List (Str × Tok)) : (strValues l).filter notDot = strValues (l.filter fun p => isWord p.1) := by
  induction l with
  | nil => rfl
  | cons p r ih =>
    show List.filter notDot (.str p.1 p.2 :: strValues r) = _
    rw [List.filter_cons, List.filter_cons, ih]
    show (if notDot (.str p.1 p.2) = true then _ else _) = _
    have : notDot (.str p.1 p.2) = isWord p.1 := rfl
    rw [this]
    split <;> rfl
theorem two_items {a b v : Value} {i : Nat} (h : #[a, b][i]? = some v) : v = a ∨ v = b := by
  match i, h with
  | 0, h => exact .inl (Option.some.inj h).symm
  | 1, h => exact .inr (Option.some.inj h).symm
  | i + 2, h => simp at h
theorem try_calm {env : Env} {body orelse : List Stmt} {h₀ : ExceptHandler} {hs : List ExceptHandler} {pos : Pos} {Q : Flow → Shared → Prop}
    (h : wpAny (model prog w) A (execs body env) (fun f s₁ => match f with | .next => wpAny (model prog w) A (execs orelse env) Q E s₁ | f => Q f s₁) (fun _ _ => False) s) :
    wpAny (model prog w) A (exec (.Try body (h₀ :: hs) orelse [] pos) env) Q E s :=
  wpAny_Try_except (wpAny_mono h (fun _ _ x => x) fun _ _ x => x.elim)
theorem map_filter_fst (l : List (Str × Tok)) : (l.filter fun p => isWord p.1).map (·.1) = (l.map (·.1)).filter isWord := by
  induction l with
  | nil => rfl
  | cons p r ih =>
    rw [List.filter_cons, List.map_cons, List.filter_cons]
    split
    · rw [List.map_cons, ih]
    · exact ih
theorem fin_eq {l1 l2 : List (Str × Tok)} {x y sep pre : Str} {t : Tok} {r : List Str} (e1 : l1.map (·.1) = Txt.split x sep) (e2 : l2.map (·.1) = Txt.split y sep) (h : lcp ((l1.filter fun p => isWord p.1).map (·.1)) ((l2.filter fun p => isWord p.1).map (·.1)) = r) :
    ∃ t', Value.str (pre ++ Txt.join sep r) t = .str (pre ++ Txt.join sep (lcp ((Txt.split x sep).filter isWord) ((Txt.split y sep).filter isWord))) t' := ⟨t, by rw [← h, map_filter_fst, map_filter_fst, e1, e2]⟩
end
local macro_rules | `(tactic| lcg_src) => `(tactic| first | (unfold tupAt; k_mem) | exact Or.inr ⟨_, by k_mem, rfl, _, rfl⟩)
local macro_rules | `(tactic| walk_at "call builtin:str.split") => `(tactic| (k_here; (with_reducible show wpAny _ _ (call (Value.builtin "str.split") [Value.str _ _, Value.str _ _]) _ _ _); k_dflt (refine' l_split ?F ?N ?x ?y ?_; (case F => k_asm); (case N => k_asm); (case x => omega); (case y => decide +kernel); k_whole); intro D' l' h' k' e' z' b' F' N' l1; (try k_lt l1); (try k_sweep)))
local macro_rules | `(tactic| walk_at "eval ListComp") => `(tactic| (k_here; k_dflt (refine comp_pure notDot (fun v y => y = v) (F₀ := by k_asm) (by rfl) (by decide) (by rfl) (by decide) (by rfl) ?_)))
local macro_rules | `(tactic| walk_at "PureSrc") => `(tactic| (k_here; k_dflt (refine ⟨_, _, _, _, rfl, rfl, by k_asm, by k_asm, .inr (by k_mem), by (simp only [strValues, List.length_map]; omega), pure_strs1 (by assumption) ?_ ?_, ?_⟩); all_goals first | (intro q9 t9 C9 oC9 m9 s9 E9 hq9 hB9 hC9 hx9 F9 N9) | (intro q9 t9 C9 oC9 m9 s9 E9 hq9 hB9 hp9 hC9 hx9 F9 N9) | (intro D' n' ys' h' tk' F' N' o1' hp'; (try simp only [LCg.Off1, and_true] at o1'); (repeat (obtain ⟨_, o1'⟩ := o1')); (replace hp' := paired_eq hp'); (rw [strValues_filter] at hp'); subst hp'; (try k_sweep))))
local macro_rules | `(tactic| walk_at "And") => `(tactic| ((with_reducible show Value.bool _ = Value.bool true ∧ _); exact ⟨congrArg Value.bool (by assumption), _, rfl⟩))
local macro_rules | `(tactic| walk_at "And") => `(tactic| ((with_reducible show _ = notDot _ ∧ Keeps _ _); exact ⟨(by first | exact nd_t (by with_reducible assumption) (by with_reducible assumption) | exact nd_f (by with_reducible assumption)), (by with_reducible first | exact keeps_toks | exact keeps_self)⟩))
local macro_rules | `(tactic| walk_at "CompRest") => `(tactic| (with_unfolding_all (refine LCg.CompRest.succ ?_; intro v' I' oI' C' oC' D' m' h' tk' E' hv' hC' hx' F' N' off' ne'; (first | lcg_open hv' | (obtain ⟨t9', hv9'⟩ := hv'; subst hv9')); (try simp only [LCg.Off3, and_true] at off'); (obtain ⟨_, _, _⟩ := ne'); (repeat (obtain ⟨⟨_, _, _⟩, off'⟩ := off')); (try (obtain ⟨_, _, _⟩ := off')))))
local macro_rules | `(tactic| walk_at "EnumPost") => `(tactic| first | (k_dflt (refine' enum_next ?F ?N ?P ?M; (case F => k_asm); (case N => k_asm); (case P => assumption); (case M => (intro z h1 h2; simp only [two, h1, h2, if_false])))) | dsimp only [EnumPost])
local macro_rules | `(tactic| walk_at "exec Try") => `(tactic| (refine try_calm ?_; (try k_fold)))
set_option maxHeartbeats 4000000 in
theorem commonpath_c (w : World) (x y : Str) (t u : Tok) (l : Addr) (n : Nat) (hx : x.length ≤ 1000) (hy : y.length ≤ 1000) (hsx : Txt.startswith x (Str.ofString "/") = true) (hsy : Txt.startswith y (Str.ofString "/") = true) :
    Ctr w 134 3 (fun h => h.get? l = some (listOf #[.str x t, .str y u] n)) [.ref l] (fun _ _ v => ∃ t', v = .str (Str.ofString "/" ++ Txt.join (Str.ofString "/") (lcp ((Txt.split x (Str.ofString "/")).filter isWord) ((Txt.split y (Str.ofString "/")).filter isWord))) t') := by
  intro mean mg mb dp un gd cn cs a ccd cl outer A₀ base h₀ L m s Q E B F X T hk hd hu hpre hret
  k_with_none
  (k_with "p_enterC" => (refine wpAny_call ?_; k_dflt (refine' code_pureC ?k1w0 ?k2w0 ?k3w0 ?k5w0 ?kAw0 ?kFw0 ?kKw0 ?k6w0 ?k7w0 ?k8w0 ?k9w0 ?kBw0 ?kDw0 ?_ ?c2w0 ?c3w0 ?c4w0; (case kAw0 => exact rfl); (case kFw0 => exact rfl); (case kKw0 => assumption); (case k1w0 => k_asm); (case k2w0 => k_asm); (case k3w0 => k_asm); (case k5w0 => k_asm); (case k6w0 => k_is); (case k7w0 => k_is); (case k8w0 => ktr_room); (case k9w0 => exact BindsTo.of_eq rfl); (case kBw0 => exact rfl); (case kDw0 => decide +kernel); (case c2w0 => exact rfl); (case c3w0 => exact rfl); (case c4w0 => exact rfl); k_whole; intro L' h' tk' cells' F' N' Y' B' X' T'; k_cells Y'; (try simp only [List.cons_append, List.nil_append] at N'); (try dsimp only); (try k_fold))))
  (k_with "exec Assign cons ListComp" => (k_here; k_dflt (refine comp_assign_tup (F₀ := by k_asm) (by rfl) (by with_unfolding_all rfl) (by rfl) (by decide) (by rfl) (by decide) (by rfl) (by rfl) (by rfl) ?_); walk1; k_dflt (refine ⟨_, _, _, _, rfl, rfl, by k_asm, by k_asm, (by unfold tupAt; k_mem), Nat.le_of_ble_eq_true rfl, ?_⟩; intro g'; lcg_lit)))
  (k_with "eval SetComp" => (k_here; k_dflt (refine setcomp_tup (F₀ := by k_asm) (by rfl) (by decide) (by rfl) (by decide) (by rfl) ?_)))
  (k_with "SetSrc" => (k_here; k_dflt (refine ⟨_, _, _, _, rfl, rfl, by k_asm, by k_asm, (by unfold tupAt; k_mem), Nat.le_of_ble_eq_true rfl, ?_, ?_⟩); (first | (intro i' v' I' oI' C' oC' D' oD' m' h' tk' E' hv' hC' hx' F' N'; (rcases two_items hv' with hw' | hw') <;> (subst hw'; clear hv')) | (intro D' h' tk' F' N' l1; (try k_lt l1)))))
  (k_with "assign Tuple" => (k_here; k_dflt (refine assign_set1 (by rfl) (by k_asm) (by k_asm) (by k_mem) (by rfl) ?_); intro h' F' N'; (try k_sweep)))
  (k_with "assign Tuple" => (k_here; (with_reducible show wpAny _ _ (assign (Expr.Tuple _ _ _) _ (Value.ref _)) _ _ _); k_dflt (refine' unpackN_ ?Fw5 ?Nw5 ?Tw5 ?k1w5 ?k2w5 ?k3w5 ?_; (case Tw5 => with_reducible assumption); (case Fw5 => k_asm); (case Nw5 => k_asm); (case k1w5 => exact rfl); (case k2w5 => exact rfl); (case k3w5 => exact rfl)); intro h' F' N'; (try k_sweep)))
  (k_with "CompSrc" => (k_here; k_dflt (refine LCg.CompSrc.ledger (by rfl) (by k_asm) (by k_asm) (by k_mem) (by first | size_fits | exact Nat.le_of_ble_eq_true rfl) ?_; intro g'; lcg_lit)))
  (k_with "call builtin:min" => (k_here; k_dflt (refine' min_texts2 ?hhw7 ?Fw7 ?Nw7 ?mw7 ?aw7 ?bw7 ?uw7 ?_; (case hhw7 => exact rfl); (case Fw7 => k_asm); (case Nw7 => k_asm); (case mw7 => k_mem); (case aw7 => k_mem); (case bw7 => k_mem); (case uw7 => ktr_units)); intro a1' c1' k1' h' tk' e1' F' N'; (try k_sweep)))
  (k_with "call builtin:max" => (k_here; k_dflt (refine' max_texts2 ?hhw8 ?Fw8 ?Nw8 ?mw8 ?aw8 ?bw8 ?uw8 ?_; (case hhw8 => exact rfl); (case Fw8 => k_asm); (case Nw8 => k_asm); (case mw8 => k_mem); (case aw8 => k_mem); (case bw8 => k_mem); (case uw8 => ktr_units)); intro a1' c1' k1' h' tk' e1' F' N'; (try k_sweep)))
  (k_with "exec For Tuple Call cons nil" => (k_here; (rename Fr _ _ _ _ => lF'); (with_unfolding_all refine' For_turns lF' ?_; k_whole)))
  (k_with "call type:enumerate" => (k_here; k_dflt (refine' enum_common ?e1w10 ?e2w10 ?hcw10 ?hdw10 ?bcw10 ?bdw10 (Str.ofString "i") (Str.ofString "c") ?hhw10 ?Fw10 ?Nw10 ?mw10 ?m2w10 ?_ ?_; (case hhw10 => exact rfl); (case Fw10 => k_asm); (case Nw10 => k_asm); (case mw10 => k_mem); (case e1w10 => with_reducible assumption); (case e2w10 => with_reducible assumption); (case m2w10 => k_mem); (case hcw10 => exact filt_z (by with_reducible assumption) (by omega)); (case hdw10 => exact filt_z (by with_reducible assumption) (by omega)); (case bcw10 => exact filt_b (by with_reducible assumption) (by with_reducible assumption)); (case bdw10 => exact filt_b (by with_reducible assumption) (by with_reducible assumption))); all_goals first | (intro k9 p9 q9 u1 u2 T9 t9 h' tk' I9 oE oL hp9 hq9 hk9 hkc hkl hkb hne9 hI9 hT9 F' N'; (try k_lt hI9)) | (intro u1 u2 h' tk' hl9 hcl9 hcb9 F' N')))
  (k_with "subscriptTail Name Name ref int" => (k_here; (with_reducible show wpAny _ _ (subscriptTail _ _ (Value.ref _) (Value.int _ _)) _ _ _); k_dflt (refine' l_item ?Nw11 ?mw11 ?xw11 ?zw11 ?_; (case Nw11 => k_asm); (case mw11 => k_mem); (case xw11 => with_reducible assumption); (case zw11 => with_reducible assumption); k_whole)))
  (k_with "subscriptTail Name Slice ref ref" => (k_here; (with_reducible show wpAny _ _ (subscriptTail _ (PySem.Expr.Slice _ _ none _) (Value.ref _) (Value.ref _)) _ _ _); k_dflt (refine' kms_slice_lit ?Fw12 ?Nw12 ?lw12 ?pw12 ?qw12 ?ew12 ?_ ?sw12 ?tw12 ?zw12; (case Fw12 => k_asm); (case Nw12 => k_asm); (case lw12 => kmk_list); (case pw12 => kmk_part); (case qw12 => kmk_part); (case ew12 => exact pick_to _ _); (case sw12 => with_unfolding_all rfl); (case tw12 => kmk_pure); (case zw12 => exact sz_le (by with_reducible assumption))); intro D' h' F' N' l1; (try k_lt l1); (try k_sweep)))
  (k_with "call type:map" => (k_here; k_dflt (refine' map_new ?Fw13 ?Nw13 ?lw13 ?_; (case Fw13 => k_asm); (case Nw13 => k_asm); (case lw13 => exact ⟨_, Fr.keep (by k_asm) _ _ (by assumption), rfl, _, rfl⟩)); intro M' tp' It' h' F' N' l1 l2 l3; have q1 := l1; (try k_lt l1); (try k_lt2 l2); (try k_lt2 l3); (try k_sweep)))
  (k_with "call type:tuple" => (k_here; k_dflt (refine' tuple_map_fspath ?k1w14 ?k2w14 ?k3w14 ?k4w14 ?k5w14 ?kKw14 ?kdw14 ?kuw14 ?lw14 ?o1w14 ?o2w14 ?o3w14 ?_; (case k1w14 => k_asm); (case k2w14 => k_asm); (case k3w14 => k_asm); (case k4w14 => k_asm); (case k5w14 => k_asm); (case kKw14 => first | exact rfl | assumption); (case kdw14 => ktr_room); (case kuw14 => ktr_units); (case lw14 => with_reducible assumption); (case o1w14 => with_reducible assumption); (case o2w14 => with_reducible assumption); (case o3w14 => with_reducible assumption)); intro D' h' tk' F' N' l1; (try k_lt l1); (try k_sweep)))
  walk_at "p_enterC"
  rename Fr s.heap _ _ _ => F1
  replace F1 : Fr s.heap _ _ (fun y => if y = Str.ofString "paths" then some (.ref l) else none) := F1
  rename Obj.data _ = _ => d1
  replace d1 : Obj.data _ = Data.cell none := d1
  rename Obj.data _ = Data.cell (bindC _ _ _ _) => d2
  replace d2 : Obj.data _ = Data.cell none := d2
  k_steps
  · rename _ → lcp _ _ = _ => hne
    exact hret _ _ _ (Fr.keep (by k_asm)) (fin_eq (by with_reducible assumption) (by with_reducible assumption) (hne (by assumption)))
  · exact hret _ _ _ (Fr.keep (by k_asm)) (fin_eq (by with_reducible assumption) (by with_reducible assumption) (by with_reducible assumption))
end

noncomputable section
open PySem PySem.W PyProof.Rows PySem.Calls PySem.SeqAt
set_option maxRecDepth 100000
set_option maxHeartbeats 4000000
section
variable {prog : Program} {w : World} {A : Around} {E : Value → Shared → Prop} {s : Shared}
theorem eq_pair {a b : Addr} {k x y : Str} {t1 t2 t3 t4 : Tok} {n n' : Nat} {Q : Value → Shared → Prop} (ha : s.heap.get? a = some (tupOf [.str k t1, .str x t2] n)) (hb : s.heap.get? b = some (tupOf [.str k t3, .str y t4] n')) (hu : A.units < cLine)
    (h : Q (.bool (x == y)) s) : wpAny (model prog w) A (compareOp .Eq (.ref a) (.ref b)) Q E s := by
  refine eq_tupleAt (items := #[.str k t1, .str x t2]) (items2 := #[.str k t3, .str y t4]) (e := fun j => if j = 0 then true else x == y) ⟨_, ha, rfl, _, rfl⟩ ⟨_, hb, rfl, _, rfl⟩ hu ?_ ?_
  · intro j h1 h2
    match j, h1, h2 with
    | 0, _, _ =>
      have := EqAt.str_str (A := A.in1) (s := s) k t1 k t3
      rw [beq_self_eq_true] at this
      exact this
    | 1, _, _ => exact EqAt.str_str (A := A.in1) (s := s) x t2 y t4
    | j + 2, h, _ => exact absurd h (by simp)
  · show Q (.bool ((List.range 2).all (fun j => if j = 0 then true else x == y) && true)) s
    have e : ((List.range 2).all (fun j => if j = 0 then true else x == y) && true) = (x == y) := by simp [List.range_succ]
    rw [e]
    exact h
theorem l_tup {a : Addr} {vs : List Value} {n : Nat} {k : Int} {u : Tok} {j : Nat} {v : Value} {value slice : Expr} {Q : Value → Shared → Prop} (ha : s.heap.get? a = some (tupOf vs n)) (hlo : -(2 ^ 63) ≤ k) (hhi : k < 2 ^ 63) (hj : seqIndex? k vs.length = some j) (hx : vs[j]? = some v) (h : Q v s)
    (hs : subscripted slice false (.ref a) (.int k u) = operate [.ref a, .int k u] (getItem (.ref a) (.int k u)) := by with_unfolding_all rfl) :
    wpAny (model prog w) A (subscriptTail value slice (.ref a) (.int k u)) Q E s := item_tupleT ⟨_, ha, rfl, _, rfl⟩ hlo hhi hj hx h hs
end
/-- a contract of a method: of the code that its bound call runs -/
def CtrM (w : World) (f : Addr) (dep : Nat) (pre : Heap → Prop) (vs : List Value) (post : Heap → Heap → Value → Prop) : Prop :=
  ∀ (mean : ExcName → Option Value) (mg mb : Str → Option Value) (dp un : Nat) (gd : Option (List Code)) (cn : Str) (cs : Scope) (a : Addr) (ccd : Value) (cl : List (Str × Addr)) (outer : List Env) (A₀ : Around) (base h₀ : Heap) (L : Addr) (m : Str → Option Value) (s : Shared) (Q E : Value → Shared → Prop),
    Below A₀ base outer h₀ → Fr h₀ L s.heap m → (hd.heap_39 w.params).In h₀ → Top vw (looseW vw []) mean mg mb h₀ → cs.kind = .function → dp + dep < recursionLimit → un + 8 * dep < cLine → pre s.heap →
    (∀ v h' tk', s.heap.StaysIn h' → post s.heap h' v → Q v { s with heap := h', toks := tk' }) →
    codeAny (model PySem.Challenge.rw_pd0106_01.row.prog w) (ktrTop dp un gd cn cs L a ccd cl outer) (.call (.ref f) ⟨vs, []⟩) (fun r s' => match r with | .ok (.ret v) => Q v s' | .ok _ => False | .error e => E e s') s
theorem CtrM.ctr {w : World} {f : Addr} {dep : Nat} {pre : Heap → Prop} {vs : List Value} {post : Heap → Heap → Value → Prop} (C : CtrM w f dep pre vs post) : Ctr w f dep pre vs post :=
  fun mean mg mb dp un gd cn cs a ccd cl outer A₀ base h₀ L m s Q E B F X T hk hd hu hp h => wpAny_call (C mean mg mb dp un gd cn cs a ccd cl outer A₀ base h₀ L m s Q E B F X T hk hd hu hp h)
def suburiF (x y : Str) : Bool := if (x == y) = true then true else Txt.startswith y (if (Txt.slice x (some (-1)) none != Str.ofString "/") = true then x ++ Str.ofString "/" else x)
theorem sub_1 {x y : Str} (h : (x == y) = true) : Value.bool true = .bool (suburiF x y) := by rw [suburiF, if_pos h]
theorem sub_2 {x y : Str} (h : (x == y) = false) (h2 : (Txt.slice x (some (-1)) none != Str.ofString "/") = true) : Value.bool (Txt.startswith y (x ++ Str.ofString "/")) = .bool (suburiF x y) := by rw [suburiF, h, if_neg (by decide), if_pos h2]
theorem sub_3 {x y : Str} (h : (x == y) = false) (h2 : (Txt.slice x (some (-1)) none != Str.ofString "/") = false) : Value.bool (Txt.startswith y x) = .bool (suburiF x y) := by rw [suburiF, h, if_neg (by decide), h2, if_neg (by decide)]
local macro_rules | `(tactic| walk_at "p_enter") => `(tactic| (k_dflt (refine' code_pure ?k1 ?k2 ?k3 ?k5 ?kA ?kF ?kK ?k6 ?k7 ?k8 ?k9 ?kB ?_ ?c2 ?c3 ?c4 ?c5; (case kA => exact rfl); (case kF => exact rfl); (case kK => assumption); (case k1 => k_asm); (case k2 => k_asm); (case k3 => k_asm); (case k5 => k_asm); (case k6 => k_is); (case k7 => k_is); (case k8 => ktr_room); (case k9 => exact BindsTo.of_eq rfl); (case c5 => decide); (case kB => exact locs rfl); (case c2 => exact rfl); (case c3 => exact rfl); (case c4 => exact rfl); k_whole; intro L' h' F' N' B' X' T'; (try dsimp only); (try k_fold))))
local macro_rules | `(tactic| walk_at "compareOp Eq ref ref") => `(tactic| (k_here; k_dflt (refine' eq_pair ?a ?b ?u ?_; (case a => exact Fr.keep (by k_asm) _ _ (by with_reducible assumption)); (case b => exact Fr.keep (by k_asm) _ _ (by with_reducible assumption)); (case u => ktr_units))))
local macro_rules | `(tactic| walk_at "subscriptTail Name Constant ref int") => `(tactic| (k_here; (with_reducible show wpAny _ _ (subscriptTail _ _ (Value.ref _) (Value.int _ _)) _ _ _); k_dflt (refine' l_tup ?a ?l ?u ?j ?x ?_; (case a => exact Fr.keep (by k_asm) _ _ (by with_reducible assumption)); (case l => decide); (case u => decide); (case j => exact rfl); (case x => exact rfl))))
example : (fun (_ : OpenLaw) (_ : Params → Frag) => True) PySem.Challenge.rw_pd0106_01 hd.heap_39 := by
  w_top off
  k_with_none
  k_fill
  trivial
theorem is_suburi_c (w : World) (self : Value) (a b : Addr) (k x y : Str) (t1 t2 t3 t4 : Tok) (n n' : Nat) (hkl : k.length ≤ 10) (hx : x.length ≤ 1000) (hy : y.length ≤ 1000) :
    CtrM w 177 1 (fun h => h.get? a = some (tupOf [.str k t1, .str x t2] n) ∧ h.get? b = some (tupOf [.str k t3, .str y t4] n')) [self, .ref a, .ref b] (fun _ _ v => v = .bool (suburiF x y)) := by
  intro mean mg mb dp un gd cn cs a' ccd cl outer A₀ base h₀ L m s Q E B F X T hk hd hu hpre hret
  obtain ⟨ha, hb⟩ := hpre
  walk_at "p_enter"
  k_steps
  all_goals first
    | exact hret _ _ _ (Fr.keep (by k_asm)) (sub_1 (by with_reducible assumption))
    | exact hret _ _ _ (Fr.keep (by k_asm)) (sub_2 (by with_reducible assumption) (by with_reducible assumption))
    | exact hret _ _ _ (Fr.keep (by k_asm)) (sub_3 (by with_reducible assumption) (by with_reducible assumption))
    | (rename (k != k) = true => hkk; simp at hkk; done)
end

section
local macro_rules | `(tactic| walk_at $s:str) => `(tactic| k_extra $s)
local macro_rules | `(tactic| k_all) => `(tactic| first | with_reducible assumption | exact List.forall_mem_nil _ | (refine' List.forall_mem_cons.mpr ⟨?a, ?b⟩; (case a => k_ne); (case b => k_all)))
noncomputable section
open PySem PySem.W PyProof.Rows PySem.Calls PySem.SeqAt
set_option maxRecDepth 100000
set_option maxHeartbeats 4000000
def normF (x : Str) : Str := Str.ofString "/" ++ Txt.join (Str.ofString "/") ((Txt.split (Txt.slice x (some 1) none) (Str.ofString "/")).foldl normStep [])
def cpF (x y : Str) : Str := Str.ofString "/" ++ Txt.join (Str.ofString "/") (lcp ((Txt.split x (Str.ofString "/")).filter isWord) ((Txt.split y (Str.ofString "/")).filter isWord))
def someF (q : Str) : Bool := q != Str.ofString ""
structure GoodF (f : Str) : Prop where
  len : f.length ≤ 1000
  pos : 0 < f.length
  sw : Txt.startswith f (Str.ofString "/") = true
  len' : (joinF f (Str.ofString "")).length ≤ 1000
structure GoodT (z : Str) : Prop where
  len : z.length ≤ 1000
  pos : 0 < z.length
  h1 : (Txt.slice z none (some 1) != Str.ofString "/") = false
  h2 : (Txt.slice z (some 1) (some 2) != Str.ofString "/") = true
  sw : Txt.startswith z (Str.ofString "/") = true
  len' : (joinF z (Str.ofString "")).length ≤ 1000
  hn : (Txt.split (Txt.slice z (some 1) none) (Str.ofString "/")).length ≤ 200
  hb : ∀ p ∈ Txt.split (Txt.slice z (some 1) none) (Str.ofString "/"), p.length ≤ 1000
  plen : (normF z).length ≤ 1000
  psw : Txt.startswith (normF z) (Str.ofString "/") = true
def toldRow (f z : Str) : Row := ⟨z, suburiF f z, suburiF (joinF f (Str.ofString "")) (joinF z (Str.ofString "")), cpF f z, suburiF f (normF z), suburiF (normF z) f, cpF f (normF z), (((Txt.split (normF z) (Str.ofString "/")).filter someF).length : Int)⟩
def trailAt (st : List Str) (i : Nat) : Str := (st.take i).foldl joinF (Str.ofString "/")
theorem normpath_g {w : World} {z : Str} {t : Tok} (g : GoodT z) : Ctr w 129 3 (fun _ => True) [.str z t] (fun _ _ v => ∃ t', v = .str (normF z) t') :=
  normpath_c w z t g.len g.pos g.h1 g.h2 _ rfl g.hn g.hb
theorem commonpath_g {w : World} {x y : Str} {t u : Tok} {l : Addr} {n : Nat} (hx : x.length ≤ 1000) (hy : y.length ≤ 1000) (hsx : Txt.startswith x (Str.ofString "/") = true) (hsy : Txt.startswith y (Str.ofString "/") = true) :
    Ctr w 134 3 (fun h => h.get? l = some (listOf #[.str x t, .str y u] n)) [.ref l] (fun _ _ v => ∃ t', v = .str (cpF x y) t') := commonpath_c w x y t u l n hx hy hsx hsy
def someV : Value → Bool
  | .str q _ => someF q
  | _ => false
theorem someV_filter (l : List (Str × Tok)) : (strValues l).filter someV = strValues (l.filter fun p => someF p.1) := by
  induction l with
  | nil => rfl
  | cons p r ih =>
    show List.filter someV (.str p.1 p.2 :: strValues r) = _
    rw [List.filter_cons, List.filter_cons, ih]
    show (if someV (.str p.1 p.2) = true then _ else _) = _
    have : someV (.str p.1 p.2) = someF p.1 := rfl
    rw [this]
    split <;> rfl
theorem sv_le {l : List (Str × Tok)} {a : Nat} (h : l.length ≤ a + 1) (ha : a ≤ 1000) : (strValues l).length ≤ 100000 := by simp only [strValues, List.length_map]; omega
theorem sm_t {q : Str} {t : Tok} {b : Bool} (h : (q != Str.ofString "") = b) : b = someV (.str q t) := h.symm
theorem filt_le {l : List (Str × Tok)} {a : Nat} {f : Str × Tok → Bool} (h : l.length ≤ a + 1) (ha : a ≤ 1000) : (l.filter f).length ≤ 100000 := by
  have := List.length_filter_le f l
  omega
theorem l_len {prog : Program} {w : World} {A : Around} {E : Value → Shared → Prop} {s : Shared} {h₀ : Heap} {L D : Addr} {news : List (Addr × Obj)} {c : List (Str × Tok)} {n : Nat} {Q : Value → Shared → Prop} (N : News h₀ L s.heap news) (hm : (D, listOf (strValues c).toArray n) ∈ news) (hz : c.length ≤ 100000)
    (h : ∀ t tk, Q (.int (c.length : Int) t) { s with toks := tk }) : wpAny (model prog w) A (call (.builtin "len") [.ref D]) Q E s := by
  refine len_list (items := (strValues c).toArray) ⟨_, (N _ hm).1, rfl, n, rfl⟩ (by rw [sv_size]; omega) ?_
  rw [sv_size]
  exact h _ _
theorem fl_len : ∀ l : List (Str × Tok), (l.filter fun p => someF p.1).length = ((l.map (·.1)).filter someF).length
  | [] => rfl
  | p :: r => by
    rw [List.filter_cons, List.map_cons, List.filter_cons]
    split
    · rw [List.length_cons, List.length_cons, fl_len r]
    · exact fl_len r
theorem told_v {f z : Str} {a : Addr} {l : List (Str × Tok)} {k1 k2 k3 k4 : Tok} (el : l.map (·.1) = Txt.split (normF z) (Str.ofString "/")) :
    RowV (toldRow f z) (a, [.str z k1, .bool (suburiF f z), .bool (suburiF (joinF f (Str.ofString "")) (joinF z (Str.ofString ""))), .str (cpF f z) k2, .bool (suburiF f (normF z)), .bool (suburiF (normF z) f), .str (cpF f (normF z)) k3, .int ((l.filter fun p => someF p.1).length : Int) k4]) :=
  ⟨k1, k2, k3, k4, by unfold toldRow; dsimp only; rw [fl_len, el]⟩
theorem sm_r {q : Str} {t : Tok} : (q != Str.ofString "") = someV (.str q t) := rfl
theorem trail_succ {st : List Str} {i : Nat} {y : Str} (h : st[i]? = some y) : trailAt st (i + 1) = joinF (trailAt st i) y := by
  unfold trailAt
  rw [List.take_add_one, h]
  simp
theorem refs_len {rs : List Row} {qs : List (Addr × List Value)} (h : RowsV rs qs) : (refsOf qs).length = rs.length := by
  induction h with
  | nil => rfl
  | cons _ _ ih => simp only [refsOf, List.map_cons, List.length_cons] at ih ⊢; rw [ih]
local macro_rules | `(tactic| walk_at "call ref") => `(tactic| (k_here; k_dflt (refine' ctr_use (join_c _ _ _ _ _ (by first | with_reducible assumption | decide +kernel) (by first | with_reducible assumption | decide +kernel) (by first | with_reducible assumption | decide +kernel)) ?k1 ?k2 ?k3 ?k4 ?k5 ?kK ?kd ?ku ?kp ?_; (case k1 => k_asm); (case k2 => k_asm); (case k3 => k_asm); (case k4 => k_asm); (case k5 => k_asm); (case kK => first | exact rfl | assumption); (case kd => ktr_room); (case ku => ktr_units); (case kp => trivial); intro v9 h' tk9 F' N' st9 e9; obtain ⟨t9, e9⟩ := e9; subst e9; (try clear st9); (try dsimp only); (try k_sweep))))
local macro_rules | `(tactic| walk_at "call ref") => `(tactic| (k_here; k_dflt (refine' ctr_use (normpath_g (by with_reducible assumption)) ?k1 ?k2 ?k3 ?k4 ?k5 ?kK ?kd ?ku ?kp ?_; (case k1 => k_asm); (case k2 => k_asm); (case k3 => k_asm); (case k4 => k_asm); (case k5 => k_asm); (case kK => first | exact rfl | assumption); (case kd => ktr_room); (case ku => ktr_units); (case kp => trivial); intro v9 h' tk9 F' N' st9 e9; obtain ⟨t9, e9⟩ := e9; subst e9; (try clear st9); (try dsimp only); (try k_sweep))))
local macro_rules | `(tactic| walk_at "call ref") => `(tactic| (k_here; k_dflt (refine' ctr_use (CtrM.ctr (is_suburi_c _ _ _ _ _ _ _ _ _ _ _ _ _ ?a1 ?a2 ?a3)) ?k1 ?k2 ?k3 ?k4 ?k5 ?kK ?kd ?ku ?kp ?_; (case k1 => k_asm); (case k2 => k_asm); (case k3 => k_asm); (case k4 => k_asm); (case k5 => k_asm); (case kK => first | exact rfl | assumption); (case kd => ktr_room); (case ku => ktr_units); (case kp => exact ⟨News.get (by k_asm) (by k_mem), News.get (by k_asm) (by k_mem)⟩); (case a1 => decide +kernel); (case a2 => with_reducible assumption); (case a3 => with_reducible assumption); intro v9 h' tk9 F' N' st9 e9; subst e9; (try clear st9); (try dsimp only); (try k_sweep))))
local macro_rules | `(tactic| walk_at "call ref") => `(tactic| (k_here; k_dflt (refine' ctr_use (commonpath_g ?a1 ?a2 ?a3 ?a4) ?k1 ?k2 ?k3 ?k4 ?k5 ?kK ?kd ?ku ?kp ?_; (case k1 => k_asm); (case k2 => k_asm); (case k3 => k_asm); (case k4 => k_asm); (case k5 => k_asm); (case kK => first | exact rfl | assumption); (case kd => ktr_room); (case ku => ktr_units); (case kp => exact News.get (by k_asm) (by k_mem)); (case a1 => with_reducible assumption); (case a2 => with_reducible assumption); (case a3 => with_reducible assumption); (case a4 => with_reducible assumption); intro v9 h' tk9 F' N' st9 e9; obtain ⟨t9, e9⟩ := e9; subst e9; (try clear st9); (try dsimp only); (try k_sweep))))
local macro_rules | `(tactic| walk_at "And") => `(tactic| ((with_reducible show _ = someV _ ∧ Keeps _ _); exact ⟨(by first | exact sm_r | exact sm_t (by with_reducible assumption)), (by with_reducible first | exact keeps_toks | exact keeps_self)⟩))
example : (fun (_ : OpenLaw) (_ : Params → Frag) => True) PySem.Challenge.rw_pd0106_01 hd.heap_39 := by
  w_top off
  k_with_none
  k_fill
  trivial
theorem law_told_c (w : World) (f : Str) (t : Tok) (l : Addr) (st : List (Str × Tok)) (n : Nat) (hf : GoodF f) (hst : ∀ p ∈ st, p.1.length ≤ 1000) (hsl : st.length ≤ 64) (hG : ∀ i, i ≤ st.length → GoodT (trailAt (st.map (·.1)) i)) :
    Ctr w 203 5 (fun h => h.get? l = some (listOf (strValues st).toArray n)) [.str f t, .ref l] (fun _ h' v => ∃ R qs n, v = .ref R ∧ h'.get? R = some (listOf (refsOf qs).toArray n) ∧ (∀ p ∈ rsOf qs, h'.get? p.1 = some p.2) ∧
      RowsV ((List.range st.length).map fun i => toldRow f (trailAt (st.map (·.1)) (i + 1))) qs) := by
  intro mean mg mb dp un gd cn cs a' ccd cl outer A₀ base h₀ L m s Q E B F X T hk hd hu hpre hret
  k_with_none
  (k_with "call builtin:list.append" => (k_here; k_dflt (refine' l_append ?Fw0 ?Nw0 ?Uw0 ?zw0 ?_; (case Fw0 => k_asm); (case Nw0 => k_asm); (case Uw0 => k_upd); (case zw0 => with_reducible assumption); k_whole); intro h' F' N'; (try k_sweep)))
  (k_with "call builtin:str.split" => (k_here; (with_reducible show wpAny _ _ (call (Value.builtin "str.split") [Value.str _ _, Value.str _ _]) _ _ _); k_dflt (refine' l_split ?Fw1 ?Nw1 ?xw1 ?yw1 ?_; (case Fw1 => k_asm); (case Nw1 => k_asm); (case xw1 => exact Nat.le_trans (by with_reducible assumption : _ ≤ 1000) (Nat.le_of_ble_eq_true rfl)); (case yw1 => decide +kernel); k_whole); intro D' l' h' k' e' z' b' F' N' l1; (try k_lt l1); (try k_sweep)))
  (k_with "call builtin:len" => (k_here; k_dflt (refine' l_len ?Nw2 ?mw2 ?zw2 ?_; (case Nw2 => k_asm); (case mw2 => k_mem); (case zw2 => exact filt_le (by with_reducible assumption) (by with_reducible assumption)); k_whole); intro t9 k9))
  (k_with "eval ListComp" => (k_here; k_dflt (refine comp_pure someV (fun v y => y = v) (F₀ := by k_asm) (by rfl) (by decide) (by rfl) (by decide) (by rfl) ?_)))
  (k_with "PureSrc" => (k_here; k_dflt (refine ⟨_, _, _, _, rfl, rfl, by k_asm, by k_asm, .inr (by k_mem), sv_le (by with_reducible assumption) (by with_reducible assumption), pure_strs1 (by assumption) ?_ ?_, ?_⟩); all_goals first | (intro q9 t9 C9 oC9 m9 s9 E9 hq9 hB9 hC9 hx9 F9 N9) | (intro q9 t9 C9 oC9 m9 s9 E9 hq9 hB9 hp9 hC9 hx9 F9 N9) | (intro D' n' ys' h' tk' F' N' o1' hp'; (try simp only [LCg.Off1, and_true] at o1'); (repeat (obtain ⟨_, o1'⟩ := o1')); (replace hp' := paired_eq hp'); (rw [someV_filter] at hp'); subst hp'; (try k_sweep))))
  (k_with "exec For Name Name cons nil" => (k_here; (rename Fr _ _ _ _ => lF'); (with_unfolding_all refine' For_invVF lF' ?k1w5 ?k2w5 ?_; (case k1w5 => exact rfl); (case k2w5 => exact rfl); k_whole)))
  walk_at "p_enter"
  k_steps
  refine Hold.mk ?_
  refine iter_rows' (τ := Str × Tok) (fun _ => []) (fun c => [(Str.ofString "trail", .str c.1 c.2)]) [Str.ofString "place"] (fun i qs c => c.1 = trailAt (st.map (·.1)) i ∧ RowsV ((List.range i).map fun i => toldRow f (trailAt (st.map (·.1)) (i + 1))) qs) (Str.ofString "/", _) rfl (by k_asm) (by k_asm) (by k_all) (by simp) ⟨_, hpre, rfl, _, rfl⟩ (by intro p hp; rw [List.mem_singleton.mp hp]; exact rfl) ⟨rfl, .nil⟩ ?_ ?_
  · rintro i qs n ⟨z0, tz⟩ v u h tk I oI hv ⟨hz0, hrows⟩ hX hK hqI hqR hRI F7 N7
    obtain ⟨y, ty, rfl, hy⟩ : ∃ y ty, v = .str y ty ∧ st[i]? = some (y, ty) := by
      unfold strValues at hv
      rw [List.getElem?_map] at hv
      obtain ⟨q, hq, rfl⟩ := Option.map_eq_some_iff.mp hv
      exact ⟨q.1, q.2, rfl, hq⟩
    have hi : i < st.length := (List.getElem?_eq_some_iff.mp hy).1
    have hyl := hst _ (List.mem_of_getElem? hy)
    have e1 := trail_succ (st := st.map (·.1)) (i := i) (y := y) (by rw [List.getElem?_map, hy]; rfl)
    have g0 := hG i (by omega)
    have g1 := hG (i + 1) hi
    have hql : (refsOf qs).length ≤ 100000 := by rw [refs_len hrows]; simp; omega
    dsimp only at hz0
    rw [← hz0] at e1 g0
    rw [e1] at g1
    clear hv hX hy hi hz0
    have q1 := g0.len
    have q2 := g0.pos
    have q3 := g1.len
    have q4 := g1.pos
    have q5 := g1.sw
    have q6 := g1.len'
    have q7 := g1.plen
    have q8 := g1.psw
    have p1 := hf.len
    have p2 := hf.pos
    have p3 := hf.sw
    have p4 := hf.len'
    simp only [List.mem_cons, forall_eq_or_imp, List.not_mem_nil, false_implies, implies_true, and_true] at hK
    obtain ⟨⟨_, _⟩, ⟨_, _⟩, ⟨_, _⟩⟩ := hK
    simp only [List.nil_append, List.cons_append] at N7
    replace hRI := neN hRI
    k_steps
    rename List.map _ _ = Txt.split _ _ => el
    refine' rows_next (_, _) _ [_, _, _, _, _, _, _, _] ?F ?N ?e1 ?e2 ?e3 ?e4 ?e5 ?e6 ?e7 ?e8 ?g1 ?g2
    case F => k_asm
    case N => k_asm
    case e1 => k_mem
    case e2 => k_mem
    case e3 => k_mem
    case e4 => intro p hp; cases hp
    case e5 =>
      intro p hp
      repeat (first | exact hp | refine List.Mem.tail _ ?_)
    case e6 => k_ne
    case e7 => k_ne
    case g1 => intro p hp; rw [List.mem_singleton.mp hp]; exact rfl
    case e8 =>
      refine ⟨e1.symm, ?_⟩
      rw [List.range_succ, List.map_append]
      refine RowsV.snoc ?_ hrows
      show RowV (toldRow f (trailAt (st.map (·.1)) (i + 1))) _
      rw [e1]
      exact told_v el
    case g2 =>
      intro z h1 h2 h3
      have h4 : z ≠ Str.ofString "trail" := h2 _ (.head _)
      have h5 : z ≠ Str.ofString "place" := by intro e; rw [e] at h3; exact absurd h3 (by decide +kernel)
      simp only [h1, h4, h5, if_false, kstB, h3, Bool.false_eq_true]
  · rintro qs n ⟨z0, tz⟩ u h tk ⟨hz0, hrows⟩ F7 N7
    k_steps
    refine hret _ _ _ (Fr.keep (by k_asm)) ⟨_, qs, n, rfl, (N7 _ (.head _)).1, fun p hp => (N7 p (.tail _ (List.mem_append_right _ (List.mem_append_right _ hp)))).1, ?_⟩
    rw [show (strValues st).length = st.length by simp [strValues]] at hrows
    exact hrows
end

noncomputable section
open PySem PySem.W PyProof.Rows PySem.Calls PySem.Spec PySem.SeqAt
set_option maxRecDepth 100000
section
variable {prog : Program} {w : World} {A : Around} {E : Value → Shared → Prop} {s : Shared} {h₀ : Heap} {L l a b : Addr} {m : Str → Option Value} {news : List (Addr × Obj)} {n : Nat}
theorem ld_list {h : Heap} {its : Array Value} (N : News h₀ L h news) (hm : (a, listOf its n) ∈ news) : h.IsList a its := ⟨_, (N _ hm).1, rfl, n, rfl⟩
theorem bs_list {h : Heap} {its : Array Value} (F : Fr h₀ L h m) (hl : h₀.get? a = some (listOf its n)) : h.IsList a its := ⟨_, F.keep _ _ hl, rfl, n, rfl⟩
theorem eq_texts {c d : List (Str × Tok)} {Q : Value → Shared → Prop} (ha : s.heap.IsList a (strValues c).toArray) (hb : s.heap.IsList b (strValues d).toArray) (hu : A.units < cLine)
    (h : Q (.bool (c.map (·.1) == d.map (·.1))) s) : wpAny (model prog w) A (compareOp .Eq (.ref a) (.ref b)) Q E s := by
  by_cases hl : c.length = d.length
  · refine eq_listAt (e := fun j => (c.map (·.1))[j]? == (d.map (·.1))[j]?) ha hb (by rw [sv_size, sv_size, hl]) hu ?_ ?_
    · intro j h1 h2
      rw [sv_size] at h1 h2
      have e1 : (strValues c).toArray[j]'(by rw [sv_size]; exact h1) = .str c[j].1 c[j].2 := by simp [strValues]
      have e2 : (strValues d).toArray[j]'(by rw [sv_size]; exact h2) = .str d[j].1 d[j].2 := by simp [strValues]
      have e3 : ((c.map (·.1))[j]? == (d.map (·.1))[j]?) = (c[j].1 == d[j].1) := by
        rw [List.getElem?_map, List.getElem?_map, List.getElem?_eq_getElem h1, List.getElem?_eq_getElem h2]
        rfl
      rw [e1, e2]
      show EqAt _ _ _ _ ((c.map (·.1))[j]? == (d.map (·.1))[j]?)
      rw [e3]
      exact EqAt.str_str _ _ _ _
    · have e : ((List.range (strValues c).toArray.size).all fun j => (c.map (·.1))[j]? == (d.map (·.1))[j]?) = (c.map (·.1) == d.map (·.1)) := by
        rw [sv_size]
        by_cases he : c.map (·.1) = d.map (·.1)
        · rw [he]; simp
        · have : (c.map (·.1) == d.map (·.1)) = false := by simpa using he
          rw [this]
          refine Bool.eq_false_iff.mpr fun hall => he (List.ext_getElem? fun j => ?_)
          rcases Nat.lt_or_ge j c.length with hj | hj
          · exact eq_of_beq (List.all_eq_true.mp hall j (List.mem_range.mpr hj))
          · rw [List.getElem?_eq_none (by simpa using hj), List.getElem?_eq_none (by simpa [← hl] using hj)]
      rw [e]
      exact h
  · refine eq_list_lengthsAt ha hb (by rw [sv_size, sv_size]; simpa using hl) hu ?_
    have : (c.map (·.1) == d.map (·.1)) = false := by
      refine Bool.eq_false_iff.mpr fun e => hl ?_
      have := congrArg List.length (eq_of_beq e)
      simpa using this
    rw [this] at h
    exact h
theorem add_texts {c d : List (Str × Tok)} {Q : Value → Shared → Prop} (F : Fr h₀ L s.heap m) (N : News h₀ L s.heap news) (ha : s.heap.IsList a (strValues c).toArray) (hb : s.heap.IsList b (strValues d).toArray) (hz : c.length + d.length ≤ 1000)
    (h : ∀ D h', Fr h₀ L h' m → News h₀ L h' ((D, listOf (strValues (c ++ d)).toArray 0) :: news) → (∀ p ∈ news, p.1 < D) → Q (.ref D) { s with heap := h' }) : wpAny (model prog w) A (binaryOp .Add (.ref a) (.ref b)) Q E s := by
  refine add_lists F N ha hb (fun h' F' N' => h _ h' F' ?_ fun p hp => Heap.lt_size (N p hp).1) (by rw [sizeLine_eq]; simp [strValues]; omega)
  have e : strValues c ++ strValues d = strValues (c ++ d) := by simp [strValues]
  rw [e] at N'
  exact N'
theorem pick_at (c : List (Str × Tok)) {i : Int} (h : 0 ≤ i) : kms_pick (strValues c).toArray.toList (some i) (some (i + 1)) = strValues ((c.drop i.toNat).take 1) := by
  obtain ⟨k, rfl⟩ : ∃ k : Nat, i = k := ⟨i.toNat, by omega⟩
  have e1 : kms_lo (some (k : Int)) (strValues c).length = min k (strValues c).length := by unfold kms_lo; simp; try omega
  have e2 : kms_hi (some ((k : Int) + 1)) (strValues c).length = min (k + 1) (strValues c).length := by unfold kms_hi; simp; try omega
  simp only [kms_pick]
  rw [e1, e2]
  simp only [strValues, List.length_map, Int.toNat_natCast, List.map_take, List.map_drop]
  rcases Nat.lt_or_ge k c.length with hk | hk
  · rw [Nat.min_eq_left (by omega), Nat.min_eq_left (by omega)]
    congr 1
    omega
  · rw [Nat.min_eq_right hk, Nat.min_eq_right (by omega), List.drop_eq_nil_of_le (by simp), List.drop_eq_nil_of_le (by simpa using hk)]
    simp
theorem pick_int (c : List (Str × Tok)) {i : Int} (h : 0 ≤ i) : kms_pick (strValues c).toArray.toList none (some i) = strValues (c.take i.toNat) := by
  obtain ⟨k, rfl⟩ : ∃ k : Nat, i = k := ⟨i.toNat, by omega⟩
  rw [pick_to, Int.toNat_natCast]
end
/-- what the inner loop turns: the pieces spelled, the two numbers -/
structure PSt where
  S : Addr
  sp : List (Str × Tok)
  n : Nat
  a : Int
  ta : Tok
  b : Int
  tb : Tok
def PSt.led (c : PSt) : Addr × Obj := (c.S, listOf (strValues c.sp).toArray c.n)
def PSt.names (c : PSt) : List (Str × Value) := [(Str.ofString "spelled", .ref c.S), (Str.ofString "shared", .int c.a c.ta), (Str.ofString "behind", .int c.b c.tb)]
section
variable {prog : Program} {w : World} {A : Around} {E : Value → Shared → Prop} {s : Shared} {env : Env} {h₀ : Heap} {x : Str} {body : List Stmt} {Q : Flow → Shared → Prop}
def PiecePost (h₀ : Heap) (L : Addr) (R I : Addr) (oI : Obj) (rest : List (Addr × Obj)) (m₀ : Str → Option Value) (x : Str) (P : PSt → Prop) (s : Shared) (Q : Flow → Shared → Prop) (f : Flow) (s₂ : Shared) : Prop :=
  match f with
  | .ret v => Q (.ret v) s₂
  | .brk => Q .next s₂
  | _ => ∃ (c : PSt) (h' : Heap) (tk' : Nat) (m' : Str → Option Value) (news : List (Addr × Obj)), s₂ = { s with heap := h', toks := tk' } ∧ Fr h₀ L h' m' ∧ News h₀ L h' news ∧ c.led ∈ news ∧ (I, oI) ∈ news ∧ (∀ p ∈ rest, p ∈ news) ∧ c.S ≠ I ∧ c.S ≠ R ∧ P c ∧
      (∀ p ∈ c.names, m' p.1 = some p.2) ∧ ∀ z, z ≠ x → (∀ p ∈ c.names, z ≠ p.1) → m' z = m₀ z
theorem piece_next {L R I : Addr} {oI : Obj} {rest news : List (Addr × Obj)} {m₀ m' : Str → Option Value} {P : PSt → Prop} {h' : Heap} {tk' : Nat} (c : PSt)
    (F : Fr h₀ L h' m') (N : News h₀ L h' news) (e1 : c.led ∈ news) (e2 : (I, oI) ∈ news) (e3 : ∀ p ∈ rest, p ∈ news) (e4 : c.S ≠ I) (e5 : c.S ≠ R) (e6 : P c) (g1 : ∀ p ∈ c.names, m' p.1 = some p.2) (g2 : ∀ z, z ≠ x → (∀ p ∈ c.names, z ≠ p.1) → m' z = m₀ z) :
    PiecePost h₀ L R I oI rest m₀ x P s Q .next { s with heap := h', toks := tk' } := ⟨c, h', tk', m', news, rfl, F, N, e1, e2, e3, e4, e5, e6, g1, g2⟩
theorem iter_pieces {l : Addr} {vs : List Value} {n₀ : Nat} {m₀ : Str → Option Value} {news : List (Addr × Obj)} (R : Addr) (P : Nat → PSt → Prop) (c₀ : PSt)
    (hh : A.handled = none) (F : Fr h₀ env.locals s.heap m₀) (N : News h₀ env.locals s.heap news) (hS : c₀.led ∈ news) (hSR : c₀.S ≠ R) (hl : (l, listOf vs.toArray n₀) ∈ news)
    (hk : ∀ p ∈ c₀.names, m₀ p.1 = some p.2) (hp : P 0 c₀)
    (turn : ∀ (i : Nat) (c : PSt) (v : Value) (h : Heap) (tk : Nat) (I : Addr) (oI : Obj), vs[i]? = some v → P i c → c.S ≠ I → c.S ≠ R → (∀ p ∈ news, p.1 ≠ I) →
      Fr h₀ env.locals h (fun y => if y = x then some v else kstB m₀ c.names y) → News h₀ env.locals h (c.led :: (I, oI) :: news) →
      wpAny (model prog w) A (execs body env) (PiecePost h₀ env.locals R I oI news m₀ x (P (i + 1)) s Q) E { s with heap := h, toks := tk })
    (done : ∀ (c : PSt) (u : Option Value) (h : Heap) (tk : Nat), P vs.length c → c.S ≠ R → Fr h₀ env.locals h (fun y => if y = x then u else kstB m₀ c.names y) →
      News h₀ env.locals h (c.led :: news) → Q .next { s with heap := h, toks := tk }) :
    wpAny (model prog w) A (pyIter (.ref l)) (fun it s₂ => LoopAtV prog w A h₀ env x body Q E it s₂) E s := by
  have hm : ∀ u : Str → Option Value, (fun z => if ([] : List Str).contains z then u z else m₀ z) = m₀ := by
    intro u; funext z; simp
  refine iter_led (n₀ := n₀) (σ := PSt) (fun c => c.led :: news) PSt.names [] (fun i c => P i c ∧ c.S ≠ R) c₀ hh F N (fun p hp => ?_) (.inr fun c => .tail _ hl) hk ⟨hp, hSR⟩ ?_ ?_
  · rcases List.mem_cons.mp hp with rfl | hp
    · exact hS
    · exact hp
  · rintro i c v u h tk I oI hv ⟨hP, hcR⟩ hI F7 N7
    rw [hm] at F7
    have N8 : News h₀ env.locals h (c.led :: (I, oI) :: news) := by
      intro p hp
      refine N7 p ?_
      rcases List.mem_cons.mp hp with rfl | hp
      · exact .head _
      · rcases List.mem_cons.mp hp with rfl | hp
        · exact List.mem_append_right _ (.head _)
        · exact List.mem_append_left _ (.tail _ hp)
    refine wpAny_mono (turn i c v h tk I oI hv hP (hI c.led (.head _)) hcR (fun p hp => hI p (.tail _ hp)) F7 N8) (fun f s₂ p => ?_) fun _ _ e => e
    have fin : (∃ (c : PSt) (h' : Heap) (tk' : Nat) (m' : Str → Option Value) (news' : List (Addr × Obj)), s₂ = { s with heap := h', toks := tk' } ∧ Fr h₀ env.locals h' m' ∧ News h₀ env.locals h' news' ∧ c.led ∈ news' ∧ (I, oI) ∈ news' ∧ (∀ p ∈ news, p ∈ news') ∧ c.S ≠ I ∧ c.S ≠ R ∧ P (i + 1) c ∧
        (∀ p ∈ c.names, m' p.1 = some p.2) ∧ ∀ z, z ≠ x → (∀ p ∈ c.names, z ≠ p.1) → m' z = m₀ z) →
        TurnEnd h₀ env.locals (fun c : PSt => c.led :: news) PSt.names [] m₀ x I oI (fun c => P (i + 1) c ∧ c.S ≠ R) s s₂ := by
      rintro ⟨c', h', tk', m', news', e, F', N', e1, e2, e3, e4, e5, hP', g1, g2⟩
      refine ⟨c', h', tk', m', news', e, F', N', fun p hp => ?_, e2, fun p hp => ?_, ⟨hP', e5⟩, g1, fun z h1 h2 _ => g2 z h1 h2⟩
      · rcases List.mem_cons.mp hp with rfl | hp
        · exact e1
        · exact e3 p hp
      · rcases List.mem_cons.mp hp with rfl | hp
        · exact e4
        · exact hI p (.tail _ hp)
    cases f with
    | ret v => exact p
    | brk => exact p
    | next => exact fin p
    | cont => exact fin p
  · rintro c u h tk ⟨hP, hcR⟩ F7 N7
    rw [hm] at F7
    exact done c (u x) h tk hP hcR (by
      have e : (fun y => if y = x then u y else kstB m₀ c.names y) = (fun y => if y = x then u x else kstB m₀ c.names y) := by
        funext y
        by_cases hy : y = x
        · rw [if_pos hy, if_pos hy, hy]
        · rw [if_neg hy, if_neg hy]
      rw [← e]
      exact F7) N7
end
end

noncomputable section
open PySem PySem.W PyProof.Rows PySem.Calls PySem.SeqAt
set_option maxRecDepth 100000
set_option maxHeartbeats 4000000
structure DSt where
  sp : List Str
  a : Int
  b : Int
def pstep (nm : List Str) (d : DSt) (p : Str) : DSt :=
  let sp := if (p != Str.ofString "") = true then d.sp ++ [p] else d.sp
  if (p == Str.ofString "..") = true then (if 0 < d.b then ⟨sp, d.a, d.b - 1⟩ else if 0 < d.a then ⟨sp, d.a - 1, d.b⟩ else ⟨sp, d.a, d.b⟩)
  else if (p != Str.ofString "") = true ∧ (p != Str.ofString ".") = true then (if d.b = 0 ∧ ((nm.drop d.a.toNat).take 1 == [p]) = true then ⟨sp, d.a + 1, d.b⟩ else ⟨sp, d.a, d.b + 1⟩)
  else ⟨sp, d.a, d.b⟩
def dstart (d : DSt) (y : Str) : DSt := if (Txt.slice y none (some 1) == Str.ofString "/") = true then ⟨[], 0, 0⟩ else d
def dstep (nm : List Str) (d : DSt) (y : Str) : DSt := (Txt.split y (Str.ofString "/")).foldl (pstep nm) (dstart d y)
def dAt (nm st : List Str) (i : Nat) : DSt := (st.take i).foldl (dstep nm) ⟨[], 0, 0⟩
def fullF (sp : List Str) : Str := Str.ofString "/" ++ Txt.join (Str.ofString "") (sp.map (· ++ Str.ofString "/"))
def maxK (nm pl : List Str) : Nat := ((List.range (nm.length + 1)).filter fun k => pl.take k == nm.take k).foldl max 0
def dueRow (nm : List Str) (d : DSt) (y : Str) : Row :=
  ⟨if ([Str.ofString "", Str.ofString "/"].any fun x => x == Txt.slice y (some (-1)) none) = true then fullF d.sp else Txt.slice (fullF d.sp) none (some (-1)), d.sp.take nm.length == nm, d.sp.take nm.length == nm,
    Str.ofString "/" ++ Txt.join (Str.ofString "/") (nm.take (maxK nm (d.sp.filter fun p => p != Str.ofString "."))), d.a == (nm.length : Int), d.b == 0, Str.ofString "/" ++ Txt.join (Str.ofString "/") (nm.take d.a.toNat), d.a + d.b⟩
structure GoodD (d : DSt) : Prop where
  len : d.sp.length ≤ 100
  a0 : 0 ≤ d.a
  a1 : d.a ≤ 100
  b0 : 0 ≤ d.b
  b1 : d.b ≤ 100
section
variable {prog : Program} {w : World} {A : Around} {E : Value → Shared → Prop} {s : Shared} {env : Env}
theorem cut_cons {st : Stmt} {rest : List Stmt} {Q : Flow → Shared → Prop} (Mid : Shared → Prop) (h1 : wpAny (model prog w) A (exec st env) (fun f s' => f = .next ∧ Mid s') E s) (h2 : ∀ s', Mid s' → wpAny (model prog w) A (execs rest env) Q E s') :
    wpAny (model prog w) A (execs (st :: rest) env) Q E s := by
  refine wpAny_execs_cons (wpAny_mono h1 (fun f s' h => ?_) fun _ _ e => e)
  obtain ⟨rfl, h⟩ := h
  exact h2 s' h
end
/-- a text stands, the ledger and the names as they were -/
structure StrAt (h₀ : Heap) (L : Addr) (m : Str → Option Value) (led : List (Addr × Obj)) (s₀ : Shared) (P : Str → Prop) (v : Value) (s : Shared) : Prop where
  out : ∃ f t h' tk', v = .str f t ∧ s = { s₀ with heap := h', toks := tk' } ∧ Fr h₀ L h' m ∧ News h₀ L h' led ∧ P f
theorem str_at {h₀ h : Heap} {L : Addr} {m : Str → Option Value} {led news : List (Addr × Obj)} {s₀ : Shared} {P : Str → Prop} {f : Str} {t : Tok} {tk : Nat} (F : Fr h₀ L h m) (N : News h₀ L h news) (sub : ∀ p ∈ led, p ∈ news) (hP : P f) :
    StrAt h₀ L m led s₀ P (.str f t) { s₀ with heap := h, toks := tk } := ⟨f, t, h, tk, rfl, rfl, F, fun p hp => N p (sub p hp), hP⟩
theorem if_cut {h₀ : Heap} {L : Addr} {m : Str → Option Value} {led : List (Addr × Obj)} {s₀ s : Shared} {prog : Program} {w : World} {A : Around} {env : Env} {e : Expr} {E Q : Value → Shared → Prop} (P : Str → Prop) (_F : Fr h₀ L s.heap m) (_N : News h₀ L s.heap led)
    (h1 : wpAny (model prog w) A (eval e env) (StrAt h₀ L m led s₀ P) E s) (h2 : ∀ f t h' tk', P f → Fr h₀ L h' m → News h₀ L h' led → Q (.str f t) { s₀ with heap := h', toks := tk' }) : wpAny (model prog w) A (eval e env) Q E s :=
  wpAny_mono h1 (fun _ _ ⟨f, t, h', tk', e1, e2, F, N, hp⟩ => e1 ▸ e2 ▸ h2 f t h' tk' hp F N) fun _ _ e => e
theorem fr_kst {h₀ h : Heap} {L : Addr} {m' m₁ : Str → Option Value} {ps : List (Str × Value)} (F : Fr h₀ L h m') (h1 : ∀ p ∈ ps, m' p.1 = some p.2) (h2 : ∀ z, (∀ p ∈ ps, z ≠ p.1) → m' z = m₁ z) : Fr h₀ L h (kstB m₁ ps) := by
  have e : kstB m₁ ps = m' := funext fun z => kstB_eq h1 fun hz => (h2 z hz).symm
  rw [e]
  exact F
/-- behind the reset: the letter, its ledger, its names -/
structure MidD (h₀ : Heap) (L : Addr) (led : List (Addr × Obj)) (m₀ : Str → Option Value) (R I : Addr) (d : DSt) (c : PSt) (h : Heap) : Prop where
  F : Fr h₀ L h (kstB m₀ c.names)
  N : News h₀ L h (c.led :: led)
  offR : c.S ≠ R
  offI : c.S ≠ I
  sp : c.sp.map (·.1) = d.sp
  a : c.a = d.a
  b : c.b = d.b
  lens : ∀ p ∈ c.sp, p.1.length ≤ 900
theorem mid_of {h₀ h : Heap} {L : Addr} {led news : List (Addr × Obj)} {m₀ m' : Str → Option Value} {R I : Addr} {d : DSt} (c : PSt) (F : Fr h₀ L h m') (N : News h₀ L h news) (e1 : c.led ∈ news) (e2 : ∀ p ∈ led, p ∈ news) (e3 : c.S ≠ R) (e4 : c.S ≠ I)
    (e5 : c.sp.map (·.1) = d.sp) (e6 : c.a = d.a) (e7 : c.b = d.b) (e8 : ∀ p ∈ c.sp, p.1.length ≤ 900) (g1 : ∀ p ∈ c.names, m' p.1 = some p.2) (g2 : ∀ z, (∀ p ∈ c.names, z ≠ p.1) → m' z = m₀ z) : MidD h₀ L led m₀ R I d c h :=
  ⟨fr_kst F g1 g2, fun p hp => (List.mem_cons.mp hp).elim (fun q => q ▸ N _ e1) fun q => N _ (e2 _ q), e3, e4, e5, e6, e7, e8⟩
theorem cut_reset {h₀ h : Heap} {L : Addr} {led : List (Addr × Obj)} {m₀ : Str → Option Value} {R I : Addr} (d : DSt) {prog : Program} {w : World} {A : Around} {E : Value → Shared → Prop} {s₀ s : Shared} {env : Env} {st : Stmt} {rest : List Stmt} {Q : Flow → Shared → Prop}
    (_F : Fr h₀ L h m₀) (_N : News h₀ L h led) (_hI : R ≠ I)
    (h1 : wpAny (model prog w) A (exec st env) (fun f s' => f = .next ∧ ∃ c h' tk', s' = { s₀ with heap := h', toks := tk' } ∧ MidD h₀ L led m₀ R I d c h') E s)
    (h2 : ∀ c h' tk', MidD h₀ L led m₀ R I d c h' → wpAny (model prog w) A (execs rest env) Q E { s₀ with heap := h', toks := tk' }) :
    wpAny (model prog w) A (execs (st :: rest) env) Q E s :=
  cut_cons (fun s' => ∃ c h' tk', s' = { s₀ with heap := h', toks := tk' } ∧ MidD h₀ L led m₀ R I d c h') h1 fun s' ⟨c, h', tk', e, hm⟩ => e ▸ h2 c h' tk' hm
theorem add_z {c : List (Str × Tok)} {p : Str × Tok} (h : c.length ≤ 999) : c.length + [p].length ≤ 1000 := by simp; omega
def spx (sp : List Str) (p : Str) : List Str := if (p != Str.ofString "") = true then sp ++ [p] else sp
theorem spx_t {sp : List Str} {p : Str} (h : (p != Str.ofString "") = true) : spx sp p = sp ++ [p] := if_pos h
theorem spx_f {sp : List Str} {p : Str} (h : (p != Str.ofString "") = false) : spx sp p = sp := by rw [spx, h, if_neg (by decide)]
section
variable {nm sp : List Str} {a b : Int} {p : Str}
theorem ps_a (h : (p == Str.ofString "..") = true) (hb : 0 < b) : pstep nm ⟨sp, a, b⟩ p = ⟨spx sp p, a, b - 1⟩ := by simp only [pstep]; rw [if_pos h, if_pos hb]; rfl
theorem ps_b (h : (p == Str.ofString "..") = true) (hb : ¬ 0 < b) (ha : 0 < a) : pstep nm ⟨sp, a, b⟩ p = ⟨spx sp p, a - 1, b⟩ := by simp only [pstep]; rw [if_pos h, if_neg hb, if_pos ha]; rfl
theorem ps_c (h : (p == Str.ofString "..") = true) (hb : ¬ 0 < b) (ha : ¬ 0 < a) : pstep nm ⟨sp, a, b⟩ p = ⟨spx sp p, a, b⟩ := by simp only [pstep]; rw [if_pos h, if_neg hb, if_neg ha]; rfl
theorem ps_d (h : (p == Str.ofString "..") = false) (h0 : (p != Str.ofString "") = true) (h2 : (p != Str.ofString ".") = true) (hb : b = 0) (he : ((nm.drop a.toNat).take 1 == [p]) = true) : pstep nm ⟨sp, a, b⟩ p = ⟨spx sp p, a + 1, b⟩ := by
  simp only [pstep]; rw [h, if_neg (by decide), if_pos ⟨h0, h2⟩, if_pos ⟨hb, he⟩]; rfl
theorem ps_e (h : (p == Str.ofString "..") = false) (h0 : (p != Str.ofString "") = true) (h2 : (p != Str.ofString ".") = true) (he : ((nm.drop a.toNat).take 1 == [p]) = false) : pstep nm ⟨sp, a, b⟩ p = ⟨spx sp p, a, b + 1⟩ := by
  simp only [pstep]; rw [h, if_neg (by decide), if_pos ⟨h0, h2⟩, if_neg (by rw [he]; exact fun x => absurd x.2 (by decide))]; rfl
theorem ps_f (h : (p == Str.ofString "..") = false) (h0 : (p != Str.ofString "") = true) (h2 : (p != Str.ofString ".") = true) (hb : b ≠ 0) : pstep nm ⟨sp, a, b⟩ p = ⟨spx sp p, a, b + 1⟩ := by
  simp only [pstep]; rw [h, if_neg (by decide), if_pos ⟨h0, h2⟩, if_neg (fun x => hb x.1)]; rfl
theorem ps_g (h : (p == Str.ofString "..") = false) (h2 : (p != Str.ofString ".") = false) : pstep nm ⟨sp, a, b⟩ p = ⟨spx sp p, a, b⟩ := by
  simp only [pstep]; rw [h, if_neg (by decide), if_neg (by rw [h2]; exact fun x => absurd x.2 (by decide))]; rfl
theorem ps_h (h : (p == Str.ofString "..") = false) (h0 : (p != Str.ofString "") = false) : pstep nm ⟨sp, a, b⟩ p = ⟨spx sp p, a, b⟩ := by
  simp only [pstep]; rw [h, if_neg (by decide), if_neg (by rw [h0]; exact fun x => absurd x.1 (by decide))]; rfl
end
theorem ps_take {nm : List (Str × Tok)} {k : Nat} {p : Str} {tp : Tok} {β : Bool} (h : (((nm.drop k).take 1).map (·.1) == [(p, tp)].map (·.1)) = β) : ((((nm.map (·.1)).drop k).take 1) == [p]) = β := by
  rw [← h, List.map_take, List.map_drop]
  rfl
/-- the word of the inner loop -/
def PWord (nm : List Str) (d : DSt) (j : Nat) (c : PSt) : Prop :=
  (c.sp.map (·.1) = d.sp ∧ c.a = d.a ∧ c.b = d.b) ∧ (∀ p ∈ c.sp, p.1.length ≤ 900) ∧ c.sp.length ≤ 100 + j ∧ 0 ≤ c.a ∧ c.a ≤ 100 + (j : Int) ∧ 0 ≤ c.b ∧ c.b ≤ 100 + (j : Int)
theorem ps_fin {nm : List Str} {dj : DSt} {p : Str} {tp : Tok} {sp2 sp' : List (Str × Tok)} {a2 b2 a' b' : Int} {j : Nat} {S : Addr} {n : Nat} {ta tb : Tok} (f1 : sp2.map (·.1) = dj.sp) (f2 : a2 = dj.a) (f3 : b2 = dj.b) (f4 : ∀ q ∈ sp2, q.1.length ≤ 900) (f5 : sp2.length ≤ 100 + j)
    (f6 : 0 ≤ a2) (f7 : a2 ≤ 100 + (j : Int)) (f8 : 0 ≤ b2) (f9 : b2 ≤ 100 + (j : Int)) (hpl : p.length ≤ 900) (hs : sp' = sp2 ++ [(p, tp)] ∨ sp' = sp2)
    (e : pstep nm ⟨sp2.map (·.1), a2, b2⟩ p = ⟨sp'.map (·.1), a', b'⟩) (ga : 0 ≤ a' ∧ a' ≤ a2 + 1) (gb : 0 ≤ b' ∧ b' ≤ b2 + 1) :
    PWord nm (pstep nm dj p) (j + 1) ⟨S, sp', n, a', ta, b', tb⟩ := by
  have ed : dj = ⟨sp2.map (·.1), a2, b2⟩ := by cases dj; simp only at f1 f2 f3; rw [f1, f2, f3]
  rw [ed, e]
  refine ⟨⟨rfl, rfl, rfl⟩, ?_, ?_, ga.1, ?_, gb.1, ?_⟩
  · rcases hs with rfl | rfl
    · intro q hq
      rcases List.mem_append.mp hq with hq | hq
      · exact f4 q hq
      · rw [List.mem_singleton.mp hq]; exact hpl
    · exact f4
  · rcases hs with rfl | rfl
    · simp only [List.length_append, List.length_singleton]; omega
    · dsimp only; omega
  · have := ga.2; dsimp only; omega
  · have := gb.2; dsimp only; omega
theorem cell_off {h₀ h : Heap} {L cp a : Addr} {oc : Obj} {v : Option Value} {its : Array Value} {n : Nat} {news : List (Addr × Obj)} (N : News h₀ L h news) (hc : (cp, oc) ∈ news) (hd : oc.data = Data.cell v) (hp : (a, listOf its n) ∈ news) : a ≠ cp := by
  rintro rfl
  have e := (N _ hp).1.symm.trans (N _ hc).1
  have e2 := congrArg Obj.data (Option.some.inj e)
  rw [hd] at e2
  cases e2
theorem cell_offs {h₀ h : Heap} {L cp : Addr} {oc : Obj} {v : Option Value} {qs : List (Addr × List Value)} {news : List (Addr × Obj)} (N : News h₀ L h news) (hc : (cp, oc) ∈ news) (hd : oc.data = Data.cell v) (hs : ∀ p ∈ rsOf qs, p ∈ news) : ∀ p ∈ rsOf qs, p.1 ≠ cp := by
  intro p hp
  obtain ⟨q, hq, rfl⟩ := List.mem_map.mp hp
  exact cell_off N hc hd (hs _ hp)
def dotV : Value → Bool
  | .str q _ => q != Str.ofString "."
  | _ => false
theorem dt_r {q : Str} {t : Tok} : (q != Str.ofString ".") = dotV (.str q t) := rfl
def dotS (p : Str × Tok) : Bool := p.1 != Str.ofString "."
theorem dotV_filter (l : List (Str × Tok)) : (strValues l).filter dotV = strValues (l.filter dotS) := by
  induction l with
  | nil => rfl
  | cons p r ih =>
    show List.filter dotV (.str p.1 p.2 :: strValues r) = _
    rw [List.filter_cons, List.filter_cons, ih]
    show (if dotV (.str p.1 p.2) = true then _ else _) = _
    have : dotV (.str p.1 p.2) = dotS p := rfl
    rw [this]
    split <;> rfl
theorem dotS_map (l : List (Str × Tok)) : (l.filter dotS).map (·.1) = (l.map (·.1)).filter fun p => p != Str.ofString "." := by
  induction l with
  | nil => rfl
  | cons p r ih =>
    rw [List.filter_cons, List.map_cons, List.filter_cons]
    show List.map _ (if (p.1 != Str.ofString ".") = true then _ else _) = _
    split
    · rw [List.map_cons, ih]
    · exact ih
theorem glue_len {l l2 : List (Str × Tok)} (e : l2.map (·.1) = (l.map (·.1)).map (· ++ Str.ofString "/")) (h : ∀ p ∈ l, p.1.length ≤ 900) : ∀ p ∈ l2, p.1.length ≤ 1000 := by
  intro p hp
  have h1 : p.1 ∈ l2.map (·.1) := List.mem_map_of_mem hp
  rw [e] at h1
  obtain ⟨q, hq, e2⟩ := List.mem_map.mp h1
  obtain ⟨r, hr, rfl⟩ := List.mem_map.mp hq
  have h3 := h r hr
  have h4 : (Str.ofString "/").length = 1 := by decide +kernel
  have h5 : (r.1 ++ Str.ofString "/").length = r.1.length + (Str.ofString "/").length := Str.length_append _ _
  rw [← e2]
  omega
def glueG (v y : Value) : Prop := ∃ q t t', v = .str q t ∧ y = .str (q ++ Str.ofString "/") t'
theorem glue_r {q : Str} {t t' : Tok} : glueG (.str q t) (.str (q ++ Str.ofString "/") t') := ⟨_, _, _, rfl, rfl⟩
theorem glue_all : ∀ {l : List (Str × Tok)} {ys : List Value}, Paired glueG ((strValues l).filter fun _ => true) ys → ∃ l2 : List (Str × Tok), ys = strValues l2 ∧ l2.map (·.1) = (l.map (·.1)).map (· ++ Str.ofString "/")
  | [], ys, h => by
    cases h
    exact ⟨[], rfl, rfl⟩
  | p :: r, ys, h => by
    have e : (strValues (p :: r)).filter (fun _ => true) = .str p.1 p.2 :: (strValues r).filter fun _ => true := rfl
    rw [e] at h
    cases h with
    | cons h1 h2 =>
      obtain ⟨l2, rfl, e2⟩ := glue_all h2
      obtain ⟨q, t, t', e3, rfl⟩ := h1
      cases e3
      exact ⟨(p.1 ++ Str.ofString "/", t') :: l2, rfl, by rw [List.map_cons, e2]; rfl⟩
theorem sv_z {l : List (Str × Tok)} (h : l.length ≤ 1001) : (strValues l).length ≤ 100000 := by simp only [strValues, List.length_map]; omega
theorem l_lenI {prog : Program} {w : World} {A : Around} {E : Value → Shared → Prop} {s : Shared} {a : Addr} {c : List (Str × Tok)} {Q : Value → Shared → Prop} (hl : s.heap.IsList a (strValues c).toArray) (hz : c.length ≤ 1001)
    (h : ∀ t tk, Q (.int (c.length : Int) t) { s with toks := tk }) : wpAny (model prog w) A (call (.builtin "len") [.ref a]) Q E s := by
  refine len_list hl (by rw [sv_size]; omega) ?_
  rw [sv_size]
  exact h _ _
theorem range_new1 {prog : Program} {w : World} {A : Around} {E : Value → Shared → Prop} {s : Shared} {h₀ : Heap} {L : Addr} {m : Str → Option Value} {news : List (Addr × Obj)} {n : Nat} {t : Tok} {Q : Value → Shared → Prop} (F : Fr h₀ L s.heap m) (N : News h₀ L s.heap news)
    (h : ∀ D t1 t2 h' tk, Fr h₀ L h' m → News h₀ L h' ((D, rngObj (n + 1) t1 t t2) :: news) → (∀ p ∈ news, p.1 < D) → Q (.ref D) { s with heap := h', toks := tk }) :
    wpAny (model prog w) A (call (.type "range") [.int ((n : Int) + 1) t]) Q E s := by
  have e : ((n : Int) + 1) = ((n + 1 : Nat) : Int) := by push_cast; rfl
  rw [e]
  exact range_new F N h
local macro_rules | `(tactic| walk_at "eval ListComp") => `(tactic| refine hold_here ?_)
local macro_rules | `(tactic| walk_at "compareOp Eq ref ref") => `(tactic| (k_here; k_dflt (refine' eq_texts ?a ?b ?u ?_; (case a => first | exact ld_list (by k_asm) (by k_mem) | exact bs_list (by k_asm) (by with_reducible assumption)); (case b => first | exact ld_list (by k_asm) (by k_mem) | exact bs_list (by k_asm) (by with_reducible assumption)); (case u => ktr_units))))
local macro_rules | `(tactic| walk_at "compareOp Eq ref ref") => `(tactic| (k_here; k_dflt (refine' eq_texts (d := [(_, _)]) ?a ?b ?u ?_; (case b => first | exact ld_list (by k_asm) (by k_mem) | exact bs_list (by k_asm) (by with_reducible assumption)); (case a => first | exact ld_list (by k_asm) (by k_mem) | exact bs_list (by k_asm) (by with_reducible assumption)); (case u => ktr_units))))
local macro_rules | `(tactic| walk_at "subscriptTail Name Slice ref ref") => `(tactic| (k_here; (with_reducible show wpAny _ _ (subscriptTail _ (PySem.Expr.Slice _ _ none _) (Value.ref _) (Value.ref _)) _ _ _); k_dflt (refine' kms_slice_lit ?F ?N ?l ?p ?q ?e ?_ ?s ?t ?z; (case F => k_asm); (case N => k_asm); (case l => first | exact ld_list (by k_asm) (by k_mem) | exact bs_list (by k_asm) (by with_reducible assumption)); (case p => kmk_part); (case q => kmk_part); (case e => first | exact pick_at _ (by with_reducible assumption) | exact pick_to _ _ | exact pick_int _ (by with_reducible assumption)); (case s => with_unfolding_all rfl); (case t => kmk_pure); (case z => exact sz_le (by with_reducible assumption))); intro D' h' F' N' l1; (try k_lt l1); (try k_sweep)))
local macro_rules | `(tactic| walk_at "And") => `(tactic| ((with_reducible show Flow.next = Flow.next ∧ _); refine hold_here ?_))
local macro_rules | `(tactic| walk_at "PureSrc") => `(tactic| refine hold_here ?_)
local macro_rules | `(tactic| walk_at "StrAt") => `(tactic| refine hold_here ?_)
local macro_rules | `(tactic| walk_at "eval IfExp") => `(tactic| refine hold_here ?_)
local macro_rules | `(tactic| walk_at "RngSrcT") => `(tactic| refine hold_here ?_)
local macro_rules | `(tactic| walk_at "call builtin:max") => `(tactic| refine hold_here ?_)
local macro_rules | `(tactic| walk_at "call builtin:len") => `(tactic| (k_here; k_dflt (refine' l_lenI ?l ?z ?_; (case l => first | exact ld_list (by k_asm) (by k_mem) | exact bs_list (by k_asm) (by with_reducible assumption)); (case z => with_reducible assumption)); intro t9 k9))
local macro_rules | `(tactic| walk_at "And") => `(tactic| ((with_reducible show _ = dotV _ ∧ Keeps _ _); exact ⟨dt_r, (by with_reducible first | exact keeps_toks | exact keeps_self)⟩))
local macro_rules | `(tactic| walk_at "And") => `(tactic| ((with_reducible show glueG _ _ ∧ Keeps _ _); exact ⟨glue_r, (by with_reducible first | exact keeps_toks | exact keeps_self)⟩))
local macro_rules | `(tactic| walk_at "And") => `(tactic| ((with_reducible show _ = _ ∧ LedKept _ _ _ _ _ _); k_dflt (refine ⟨rfl, led_kept (by k_asm) (by k_asm) ?_⟩; intro p hp; repeat (first | exact hp | refine List.Mem.tail _ ?_))))
theorem maxK_eq {nm pl : List Str} {k : Nat} (h1 : k ∈ (List.range (nm.length + 1)).filter fun k => pl.take k == nm.take k) (h2 : ∀ j ∈ (List.range (nm.length + 1)).filter (fun k => pl.take k == nm.take k), j ≤ k) : maxK nm pl = k := by
  unfold maxK
  generalize (List.range (nm.length + 1)).filter (fun k => pl.take k == nm.take k) = l at h1 h2
  have key : ∀ (l : List Nat) (a : Nat), a ≤ k → (∀ j ∈ l, j ≤ k) → (k ∈ l ∨ a = k) → l.foldl max a = k := by
    intro l
    induction l with
    | nil => intro a _ _ h; rcases h with h | h; cases h; exact h
    | cons x r ih =>
      intro a ha hl h
      rw [List.foldl_cons]
      have hx := hl x (.head _)
      refine ih (max a x) (by omega) (fun j hj => hl j (.tail _ hj)) ?_
      rcases h with h | h
      · rcases List.mem_cons.mp h with rfl | h
        · exact .inr (by omega)
        · exact .inl h
      · exact .inr (by omega)
  exact key l 0 (Nat.zero_le _) h2 (.inl h1)
theorem due_v {nm sp3 : List (Str × Tok)} {y f : Str} {a3 b3 : Int} {kM : Nat} {D : Addr} {k1 k2 k3 k4 : Tok} {d : DSt}
    (hf : f = if ([Str.ofString "", Str.ofString "/"].any fun x => x == Txt.slice y (some (-1)) none) = true then fullF (sp3.map (·.1)) else Txt.slice (fullF (sp3.map (·.1))) none (some (-1)))
    (hmax : maxK (nm.map (·.1)) ((sp3.filter dotS).map (·.1)) = kM) (p1 : sp3.map (·.1) = d.sp) (p2 : a3 = d.a) (p3 : b3 = d.b) :
    RowV (dueRow (nm.map (·.1)) d y) (D, [.str f k1, .bool ((sp3.take nm.length).map (·.1) == nm.map (·.1)), .bool ((sp3.take nm.length).map (·.1) == nm.map (·.1)), .str (Str.ofString "/" ++ Txt.join (Str.ofString "/") ((nm.take kM).map (·.1))) k2,
      .bool (a3 == (nm.length : Int)), .bool (b3 == 0), .str (Str.ofString "/" ++ Txt.join (Str.ofString "/") ((nm.take a3.toNat).map (·.1))) k3, .int (a3 + b3) k4]) := by
  refine ⟨k1, k2, k3, k4, ?_⟩
  unfold dueRow
  dsimp only
  rw [hf, ← hmax, dotS_map, ← p1, ← p2, ← p3]
  simp only [List.map_take, List.length_map]
theorem gd_start {d : DSt} {y : Str} (g : GoodD d) : GoodD (dstart d y) := by
  unfold dstart
  split
  · exact ⟨by simp, by simp, by simp, by simp, by simp⟩
  · exact g
theorem ds_t {d : DSt} {y : Str} (h : (Txt.slice y none (some 1) == Str.ofString "/") = true) : dstart d y = ⟨[], 0, 0⟩ := by rw [dstart, if_pos h]
theorem ds_f {d : DSt} {y : Str} (h : (Txt.slice y none (some 1) == Str.ofString "/") = false) : dstart d y = d := by rw [dstart, h, if_neg (by decide)]
example : (fun (_ : OpenLaw) (_ : Params → Frag) => True) PySem.Challenge.rw_pd0106_01 hd.heap_39 := by
  w_top off
  k_with_none
  k_fill
  trivial
theorem d_succ {nm st : List Str} {i : Nat} {y : Str} (h : st[i]? = some y) : dAt nm st (i + 1) = dstep nm (dAt nm st i) y := by
  unfold dAt
  rw [List.take_add_one, h]
  simp
theorem rows_snoc {rs : Nat → Row} {i : Nat} {qs : List (Addr × List Value)} {q : Addr × List Value} (h : RowsV ((List.range i).map rs) qs) (hv : RowV (rs i) q) : RowsV ((List.range (i + 1)).map rs) (qs ++ [q]) := by
  rw [List.range_succ, List.map_append]
  exact RowsV.snoc hv h
theorem due_snoc {nm st : List Str} {i : Nat} {qs : List (Addr × List Value)} {a : Addr} {vals : List Value} {y : Str} (h : RowsV ((List.range i).map fun i => dueRow nm (dAt nm st (i + 1)) (st.getD i Str.empty)) qs) (hyd : st.getD i Str.empty = y)
    (hv : RowV (dueRow nm (dAt nm st (i + 1)) y) (a, vals)) : RowsV ((List.range (i + 1)).map fun i => dueRow nm (dAt nm st (i + 1)) (st.getD i Str.empty)) (qs ++ [(a, vals)]) := by
  subst hyd
  exact rows_snoc (rs := fun i => dueRow nm (dAt nm st (i + 1)) (st.getD i Str.empty)) h hv
theorem law_due_c (w : World) (ln l : Addr) (nm st : List (Str × Tok)) (n n' : Nat) (hnl : nm.length ≤ 8) (hnb : ∀ p ∈ nm, p.1.length ≤ 1000) (hst : ∀ p ∈ st, p.1.length ≤ 10) (hsl : st.length ≤ 64) (hG : ∀ i, i ≤ st.length → GoodD (dAt (nm.map (·.1)) (st.map (·.1)) i)) :
    Ctr w 208 2 (fun h => h.get? ln = some (listOf (strValues nm).toArray n) ∧ h.get? l = some (listOf (strValues st).toArray n')) [.ref ln, .ref l] (fun _ h' v => ∃ R qs n, v = .ref R ∧ h'.get? R = some (listOf (refsOf qs).toArray n) ∧ (∀ p ∈ rsOf qs, h'.get? p.1 = some p.2) ∧
      RowsV ((List.range st.length).map fun i => dueRow (nm.map (·.1)) (dAt (nm.map (·.1)) (st.map (·.1)) (i + 1)) ((st.map (·.1)).getD i Str.empty)) qs) := by
  intro mean mg mb dp un gd cn cs a' ccd cl outer A₀ base h₀ L m s Q E B F X T hk hd hu hpre hret
  k_with_none
  (k_with "exec For Name Name cons nil" => (k_here; (rename Fr _ _ _ _ => lF'); (with_unfolding_all refine' For_invVF lF' ?k1w0 ?k2w0 ?_; (case k1w0 => exact rfl); (case k2w0 => exact rfl); k_whole)))
  (k_with "exec For Name Call cons nil" => (k_here; (rename Fr _ _ _ _ => lF'); (with_unfolding_all refine' For_invVF lF' ?k1w1 ?k2w1 ?_; (case k1w1 => exact rfl); (case k2w1 => exact rfl); k_whole)))
  (k_with "call builtin:list.append" => (k_here; k_dflt (refine' l_append ?Fw2 ?Nw2 ?Uw2 ?zw2 ?_; (case Fw2 => k_asm); (case Nw2 => k_asm); (case Uw2 => k_upd); (case zw2 => with_reducible assumption); k_whole); intro h' F' N'; (try k_sweep)))
  (k_with "call builtin:str.split" => (k_here; (with_reducible show wpAny _ _ (call (Value.builtin "str.split") [Value.str _ _, Value.str _ _]) _ _ _); k_dflt (refine' l_split ?Fw3 ?Nw3 ?xw3 ?yw3 ?_; (case Fw3 => k_asm); (case Nw3 => k_asm); (case xw3 => exact Nat.le_trans (by with_reducible assumption : _ ≤ 1000) (Nat.le_of_ble_eq_true rfl)); (case yw3 => decide +kernel); k_whole); intro D' l' h' k' e' z' b' F' N' l1; (try k_lt l1); (try k_sweep)))
  (k_with "binaryOp Add ref ref" => (k_here; k_dflt (refine' add_texts (d := [(_, _)]) ?Fw4 ?Nw4 ?aw4 ?bw4 ?zw4 ?_; (case Fw4 => k_asm); (case Nw4 => k_asm); (case aw4 => first | exact ld_list (by k_asm) (by k_mem) | exact bs_list (by k_asm) (by with_reducible assumption)); (case bw4 => first | exact ld_list (by k_asm) (by k_mem) | exact bs_list (by k_asm) (by with_reducible assumption)); (case zw4 => exact add_z (by with_reducible assumption))); intro D' h' F' N' l1; (try k_lt l1); (try k_sweep)))
  (k_with "call type:range" => (k_here; k_dflt (refine' range_new1 ?Fw5 ?Nw5 ?_; (case Fw5 => k_asm); (case Nw5 => k_asm)); intro D' t1' t2' h' tk' F' N' l1; (try k_lt l1); (try k_sweep)))
  obtain ⟨hpn, hps⟩ := hpre
  refine wpAny_call ?_
  refine' code_pureC ?k1 ?k2 ?k3 ?k5 ?kA ?kF ?kK ?k6 ?k7 ?k8 ?k9 ?kB ?kD ?_ ?c2 ?c3 ?c4
  (case kA => exact rfl)
  (case kF => exact rfl)
  (case kK => assumption)
  (case k1 => k_asm)
  (case k2 => k_asm)
  (case k3 => k_asm)
  (case k5 => k_asm)
  (case k6 => k_is)
  (case k7 => k_is)
  (case k8 => ktr_room)
  (case k9 => exact BindsTo.of_eq rfl)
  (case kB => exact rfl)
  (case kD => decide +kernel)
  (case c2 => exact rfl)
  (case c3 => exact rfl)
  (case c4 => exact rfl)
  intro L' h' tk' cells' F' N' Y' B' X' T'
  have hY := CellsAre.two Y'
  obtain ⟨o1, o2, hE, d1, d2⟩ := hY
  subst hE
  clear Y'
  replace F' : Fr s.heap _ _ (fun y => if y = Str.ofString "steps" then some (.ref l) else none) := F'
  replace d1 : o1.data = Data.cell none := d1
  replace d2 : o2.data = Data.cell (some (.ref ln)) := d2
  (try simp only [List.cons_append, List.nil_append] at N')
  (try dsimp only)
  (try k_fold)
  k_steps
  refine Hold.mk ?_
  refine' iter_rows (τ := PSt × Obj) (K := [(L' + 1, o2)]) (fun c => [c.1.led, (L' + 1 + 1, c.2)]) (fun c => c.1.names) [Str.ofString "piece", Str.ofString "full"]
    (fun i qs c => (c.1.sp.map (·.1) = (dAt (nm.map (·.1)) (st.map (·.1)) i).sp ∧ c.1.a = (dAt (nm.map (·.1)) (st.map (·.1)) i).a ∧ c.1.b = (dAt (nm.map (·.1)) (st.map (·.1)) i).b ∧ (∀ p ∈ c.1.sp, p.1.length ≤ 900) ∧ ∃ v, c.2.data = Data.cell v) ∧
      RowsV ((List.range i).map fun i => dueRow (nm.map (·.1)) (dAt (nm.map (·.1)) (st.map (·.1)) (i + 1)) ((st.map (·.1)).getD i Str.empty)) qs) (⟨_, [], 0, 0, _, 0, _⟩, o1) ?hh ?F ?N ?hR ?hX ?hK ?hl ?hk ?hp ?turn ?done
  case hh => exact rfl
  case F => k_asm
  case N => k_asm
  case hR => k_mem
  case hk =>
    intro p hp
    simp only [PSt.names, List.mem_cons, List.not_mem_nil, or_false] at hp
    rcases hp with hp | hp | hp <;> subst hp <;> exact rfl
  case hX =>
    intro p hp
    simp only [List.mem_cons, List.not_mem_nil, or_false] at hp
    rcases hp with rfl | rfl
    · exact ⟨by unfold PSt.led; k_mem, by unfold PSt.led; k_ne⟩
    · exact ⟨by k_mem, by k_ne⟩
  case hK =>
    intro p hp
    rw [List.mem_singleton.mp hp]
    exact ⟨by k_mem, by k_ne⟩
  case hl => exact ⟨_, hps, rfl, _, rfl⟩
  case hp => exact ⟨⟨rfl, rfl, rfl, by simp, _, d1⟩, .nil⟩
  case turn =>
    rintro i qs k ⟨⟨S, sp, kn, a, ta, b, tb⟩, oc⟩ v u h tk I oI hv ⟨⟨hd1, hd2, hd3, hd4, vc, hd5⟩, hrows⟩ hX hK hqI hqR hRI F7 N7
    dsimp only at hd1 hd2 hd3 hd4 hd5
    obtain ⟨y, ty, rfl, hy⟩ : ∃ y ty, v = .str y ty ∧ st[i]? = some (y, ty) := by
      unfold strValues at hv
      rw [List.getElem?_map] at hv
      obtain ⟨q, hq, rfl⟩ := Option.map_eq_some_iff.mp hv
      exact ⟨q.1, q.2, rfl, hq⟩
    have hi : i < st.length := (List.getElem?_eq_some_iff.mp hy).1
    have hyl := hst _ (List.mem_of_getElem? hy)
    have e1 := d_succ (nm := nm.map (·.1)) (st := st.map (·.1)) (i := i) (y := y) (by rw [List.getElem?_map, hy]; rfl)
    have hyd : (st.map (·.1)).getD i Str.empty = y := by rw [List.getD_eq_getElem?_getD, List.getElem?_map, hy]; rfl
    have g0 := hG i (by omega)
    have g1 := hG (i + 1) hi
    have hql : (refsOf qs).length ≤ 100000 := by rw [refs_len hrows]; simp; omega
    have hsn : ∀ (a : Addr) (vals : List Value), RowV (dueRow (nm.map (·.1)) (dAt (nm.map (·.1)) (st.map (·.1)) (i + 1)) y) (a, vals) →
        RowsV ((List.range (i + 1)).map fun i => dueRow (nm.map (·.1)) (dAt (nm.map (·.1)) (st.map (·.1)) (i + 1)) ((st.map (·.1)).getD i Str.empty)) (qs ++ [(a, vals)]) := by
      exact fun a vals hv => due_snoc hrows hyd hv
    clear hrows hyd
    generalize dAt (nm.map (·.1)) (st.map (·.1)) i = d0 at hd1 hd2 hd3 g0 e1
    simp only [PSt.led, List.mem_cons, List.not_mem_nil, or_false, forall_eq_or_imp, forall_eq] at hX hK
    obtain ⟨⟨x1, x2⟩, x3, x4⟩ := hX
    obtain ⟨x5, x6⟩ := hK
    simp only [PSt.led, List.cons_append, List.nil_append] at N7
    clear hv hi hy
    refine cut_reset (s₀ := s) (dstart d0 y) F7 N7 hRI ?_ ?_
    · k_steps
      · refine Hold.mk ?_
        rw [ds_t (by with_reducible assumption)]
        refine' ⟨rfl, ⟨_, [], 0, 0, _, 0, _⟩, _, _, rfl, mid_of _ ?F ?N ?e1 ?e2 ?e3 ?e4 rfl rfl rfl ?e8 ?g1 ?g2⟩
        case F => k_asm
        case g1 =>
          intro p hp
          simp only [PSt.names, List.mem_cons, List.not_mem_nil, or_false] at hp
          rcases hp with hp | hp | hp <;> subst hp <;> exact rfl
        case N => k_asm
        case e1 => exact List.Mem.head _
        case e2 =>
          intro p hp
          repeat (first | exact hp | refine List.Mem.tail _ ?_)
        case e3 => k_ne
        case e4 => k_ne
        case e8 => intro p hp; cases hp
        case g2 =>
          intro z hz
          have z1 : z ≠ Str.ofString "spelled" := hz _ (.head _)
          have z2 : z ≠ Str.ofString "shared" := hz _ (.tail _ (.head _))
          have z3 : z ≠ Str.ofString "behind" := hz _ (.tail _ (.tail _ (.head _)))
          simp only [PSt.names, kstB, z1, z2, z3, if_false]
      · refine Hold.mk ?_
        rw [ds_f (by with_reducible assumption)]
        refine' ⟨rfl, ⟨S, sp, kn, a, ta, b, tb⟩, _, _, rfl, mid_of _ ?F ?N ?e1 ?e2 x2 x1 hd1 hd2 hd3 hd4 ?g1 ?g2⟩
        case F => k_asm
        case g1 =>
          intro p hp
          simp only [PSt.names, List.mem_cons, List.not_mem_nil, or_false] at hp
          rcases hp with hp | hp | hp <;> subst hp <;> exact rfl
        case N => k_asm
        case e1 => unfold PSt.led; k_mem
        case e2 => exact fun p hp => hp
        case g2 => intro z hz; rfl
    · rintro ⟨S1, sp1, n1, a1, ta1, b1, tb1⟩ h1 tk1 ⟨F1, N1, o1R, o1I, c1, c2, c3, c4⟩
      dsimp only at o1R o1I c1 c2 c3 c4
      simp only [PSt.led] at N1
      clear F7 N7
      have gs := gd_start (y := y) g0
      have hnz : nm.length ≤ 1001 := by omega
      have hy1 : y.length ≤ 1000 := by dsimp only at hyl; omega
      k_steps
      refine Hold.mk ?_
      rename List (Str × Tok) => lp
      rename List.map _ lp = Txt.split _ _ => el
      have lb : ∀ p ∈ lp, p.1.length ≤ y.length := by assumption
      have lz : lp.length ≤ y.length + 1 := by assumption
      have lz2 : lp.length ≤ 11 := by dsimp only at hyl; omega
      refine' iter_pieces _ (fun j c => PWord (nm.map (·.1)) (((lp.map (·.1)).take j).foldl (pstep (nm.map (·.1))) (dstart d0 y)) j c ∧ c.S ≠ I) ⟨S1, sp1, n1, a1, ta1, b1, tb1⟩ ?ihh ?iF ?iN ?ihS o1R ?ihl ?ihk ?ihp ?iturn ?idone
      case ihh => exact rfl
      case iF => k_asm
      case iN => k_asm
      case ihS => unfold PSt.led; k_mem
      case ihl => k_mem
      case ihk =>
        intro p hp
        simp only [PSt.names, List.mem_cons, List.not_mem_nil, or_false] at hp
        rcases hp with hp | hp | hp <;> subst hp <;> exact rfl
      case ihp =>
        refine ⟨⟨⟨c1, c2, c3⟩, c4, ?_, ?_, ?_, ?_, ?_⟩, o1I⟩
        · have := congrArg List.length c1
          rw [List.length_map] at this
          have := gs.len
          dsimp only
          omega
        · rw [c2]; exact gs.a0
        · rw [c2]; have := gs.a1; dsimp only; omega
        · rw [c3]; exact gs.b0
        · rw [c3]; have := gs.b1; dsimp only; omega
      case iturn =>
        rintro j ⟨S2, sp2, n2, a2, ta2, b2, tb2⟩ v h2 tk2 I2 oI2 hv ⟨⟨⟨f1, f2, f3⟩, f4, f5, f6, f7, f8, f9⟩, hSJ⟩ hSI hSR _ F8 N8
        dsimp only at f1 f2 f3 f4 f5 f6 f7 f8 f9 hSI hSR hSJ
        obtain ⟨p, tp, rfl, hp⟩ : ∃ p tp, v = .str p tp ∧ lp[j]? = some (p, tp) := by
          unfold strValues at hv
          rw [List.getElem?_map] at hv
          obtain ⟨q, hq, rfl⟩ := Option.map_eq_some_iff.mp hv
          exact ⟨q.1, q.2, rfl, hq⟩
        have hj : j < lp.length := (List.getElem?_eq_some_iff.mp hp).1
        have hpl : p.length ≤ 900 := Nat.le_trans (lb _ (List.mem_of_getElem? hp)) (by dsimp only at hyl; omega)
        have hf : ((lp.map (·.1)).take (j + 1)).foldl (pstep (nm.map (·.1))) (dstart d0 y) = pstep (nm.map (·.1)) (((lp.map (·.1)).take j).foldl (pstep (nm.map (·.1))) (dstart d0 y)) p := by
          rw [List.take_add_one, List.getElem?_map, hp]; simp
        have hz2 : sp2.length ≤ 999 := by omega
        simp only [PSt.led] at N8
        simp only [PSt.names] at F8
        rw [hf]
        generalize ((lp.map (·.1)).take j).foldl (pstep (nm.map (·.1))) (dstart d0 y) = dj at f1 f2 f3 ⊢
        clear hv hp hf
        k_steps
        all_goals (
          refine' piece_next ⟨_, _, _, _, _, _, _⟩ ?F ?N ?e1 ?e2 ?e3 ?e4 ?e5 ?e6 ?g1 ?g2
          case F => k_asm
          case g1 =>
            intro q hq
            simp only [PSt.names, List.mem_cons, List.not_mem_nil, or_false] at hq
            rcases hq with hq | hq | hq <;> subst hq <;> exact rfl
          case N => k_asm
          case e1 => unfold PSt.led; k_mem
          case e2 => k_mem
          case e3 =>
            intro q hq
            repeat (first | exact hq | refine List.Mem.tail _ ?_)
          case e4 => first | exact hSI | k_ne
          case e5 => first | exact hSR | k_ne
          case e6 =>
            refine ⟨?_, by first | exact hSJ | k_ne⟩
            refine ps_fin (tp := tp) f1 f2 f3 f4 f5 f6 f7 f8 f9 hpl (by first | exact .inr rfl | exact .inl rfl) ?_ ?_ ?_
            · first
                | rw [ps_a (by with_reducible assumption) (by with_reducible assumption)]
                | rw [ps_b (by with_reducible assumption) (by with_reducible assumption) (by with_reducible assumption)]
                | rw [ps_c (by with_reducible assumption) (by with_reducible assumption) (by with_reducible assumption)]
                | rw [ps_h (by with_reducible assumption) (by with_reducible assumption)]
                | rw [ps_g (by with_reducible assumption) (by with_reducible assumption)]
                | rw [ps_d (by with_reducible assumption) (by with_reducible assumption) (by with_reducible assumption) (by with_reducible assumption) (ps_take (by assumption))]
                | rw [ps_f (by with_reducible assumption) (by with_reducible assumption) (by with_reducible assumption) (by with_reducible assumption)]
                | rw [ps_e (by with_reducible assumption) (by with_reducible assumption) (by with_reducible assumption) (ps_take (by assumption))]
              first
                | (rw [spx_t (by with_reducible assumption), List.map_append]; rfl)
                | rw [spx_f (by with_reducible assumption)]
            · constructor <;> omega
            · constructor <;> omega
          case g2 =>
            intro z hz hz2
            have z1 : z ≠ Str.ofString "spelled" := hz2 _ (.head _)
            have z2 : z ≠ Str.ofString "shared" := hz2 _ (.tail _ (.head _))
            have z3 : z ≠ Str.ofString "behind" := hz2 _ (.tail _ (.tail _ (.head _)))
            simp only [PSt.names, kstB, hz, z1, z2, z3, if_false])
      case idone =>
        rintro ⟨S3, sp3, n3, a3, ta3, b3, tb3⟩ u3 h3 tk3 hP o3R F9 N9
        rw [show (strValues lp).length = (lp.map (·.1)).length by simp [strValues], List.take_length, el] at hP
        replace hP : PWord (nm.map (·.1)) (dstep (nm.map (·.1)) d0 y) _ _ ∧ S3 ≠ I := hP
        obtain ⟨⟨⟨p1, p2, p3⟩, p4, p5, p6, p7, p8, p9⟩, o3I⟩ := hP
        dsimp only at p1 p2 p3 p4 p5 p6 p7 p8 p9 o3R
        rw [← e1] at p1 p2 p3
        simp only [PSt.led] at N9
        simp only [PSt.names] at F9
        have hz3 : sp3.length ≤ 1001 := by have h5 := congrArg List.length el; rw [List.length_map] at h5; omega
        clear p5 p7 p9
        have y1 : S3 ≠ L' + 1 + 1 := cell_off N9 (by k_mem) hd5 (by k_mem)
        have y2 : S1 ≠ L' + 1 + 1 := cell_off N9 (by k_mem) hd5 (by k_mem)
        have y3 : S ≠ L' + 1 + 1 := cell_off N9 (by k_mem) hd5 (by k_mem)
        have y4 : ∀ p ∈ rsOf qs, p.1 ≠ L' + 1 + 1 := cell_offs N9 (by k_mem) hd5 (by intro p hp; repeat (first | exact hp | refine List.Mem.tail _ ?_))
        k_steps
        refine Hold.mk ?_
        refine comp_pure dotV (fun v y => y = v) (F₀ := by k_asm) (by rfl) (by decide) (by rfl) (by decide) (by rfl) ?_
        k_steps
        refine Hold.mk ?_
        refine ⟨_, _, _, _, rfl, rfl, by k_asm, by k_asm, .inr (by k_mem), sv_z hz3, pure_strs1 (B := 900) p4 ?_ ?_, ?_⟩
        · intro q9 t9 C9 oC9 m9 s9 E9 hq9 hB9 hC9 hx9 F9' N9'
          k_steps
        · intro q9 t9 C9 oC9 m9 s9 E9 hq9 hB9 hp9 hC9 hx9 F9' N9'
          k_steps
        · intro DP nP ysP hP tkP FP NP oP hpP
          replace hpP := paired_eq hpP
          rw [dotV_filter] at hpP
          subst hpP
          simp only [LCg.Off1] at oP
          repeat (obtain ⟨_, oP⟩ := oP)
          k_steps
          refine Hold.mk ?_
          refine comp_pure (fun _ => true) glueG (F₀ := by k_asm) (by rfl) (by decide) (by rfl) (by decide) (by rfl) ?_
          k_steps
          refine Hold.mk ?_
          refine ⟨_, _, _, _, rfl, rfl, by k_asm, by k_asm, .inr (by k_mem), sv_z hz3, pure_strs0 (B := 900) p4 ?_, ?_⟩
          · intro q9 t9 C9 oC9 m9 s9 E9 hq9 hB9 hC9 hx9 F9' N9'
            k_steps
          · intro DJ nJ ysJ hJ tkJ FJ NJ oJ hpJ
            obtain ⟨l2, rfl, el2⟩ := glue_all hpJ
            simp only [LCg.Off1] at oJ
            repeat (obtain ⟨_, oJ⟩ := oJ)
            have lj1 : l2.length ≤ 1001 := by have h5 := congrArg List.length el2; simp only [List.length_map] at h5; omega
            have lj2 := glue_len el2 p4
            have hn1 : nm.length + 1 ≤ 1000 := by omega
            have hzp : (sp3.filter dotS).length ≤ 1001 := Nat.le_trans (List.length_filter_le _ _) hz3
            k_steps
            refine Hold.mk ?_
            refine if_cut (s₀ := s) (fun f => f = if ([Str.ofString "", Str.ofString "/"].any fun x => x == Txt.slice y (some (-1)) none) = true then fullF (sp3.map (·.1)) else Txt.slice (fullF (sp3.map (·.1))) none (some (-1))) (by k_asm) (by k_asm) ?_ ?_
            · refine IfExp_ ?_
              k_steps
              all_goals (
                refine Hold.mk ?_
                rename List.any _ _ = _ => hany
                refine' str_at ?sF ?sN ?sS ?sP
                case sF => k_asm
                case sN => k_asm
                case sS =>
                  intro p hp
                  repeat (first | exact hp | refine List.Mem.tail _ ?_)
                case sP =>
                  rw [hany]
                  first
                    | (rw [if_pos rfl, fullF, el2])
                    | (rw [if_neg (by decide), fullF, el2]))
            · intro fS tS hS tkS hfS FS NS
              k_steps
              refine Hold.mk ?_
              refine comp_rangeT (fun k => (((sp3.filter dotS).take k).map (·.1)) == ((nm.take k).map (·.1))) (F₀ := by k_asm) (by rfl) (by decide) (by rfl) (by decide) (by rfl) ?_
              k_steps
              refine Hold.mk ?_
              refine ⟨_, _, _, _, _, _, rfl, rfl, by k_asm, by k_asm, by k_mem, by with_reducible assumption, ?_, ?_, ?_⟩
              · intro k9 t9 I9 oI9 C9 oC9 D9 ys9 m9 h9 tk9 E9 hk9 hC9 hx9 F9' N9'
                k_steps
              · intro k9 t9 I9 oI9 C9 oC9 D9 ys9 m9 h9 tk9 E9 hk9 hC9 hx9 F9' N9'
                k_steps
              · intro DR kR ysR hR tkR FR NR oR hiR
                simp only [LCg.Off1] at oR
                repeat (obtain ⟨_, oR⟩ := oR)
                k_steps
                refine Hold.mk ?_
                refine kso_max (by k_asm) (by k_asm) (ld_list (by k_asm) (by k_mem)) hiR ?_ rfl fun hM M tM tkM FM NM hMin hMax => ?_
                · have h0 : (0 : Nat) ∈ (List.range (nm.length + 1)).filter fun k => (((sp3.filter dotS).take k).map (·.1)) == ((nm.take k).map (·.1)) := List.mem_filter.mpr ⟨List.mem_range.mpr (Nat.succ_pos _), by simp⟩
                  exact List.length_pos_of_mem (List.mem_map_of_mem h0)
                · obtain ⟨kM, hkM, rfl⟩ := List.mem_map.mp hMin
                  have hmax : maxK (nm.map (·.1)) ((sp3.filter dotS).map (·.1)) = kM := by
                    refine maxK_eq ?_ ?_
                    · simpa only [List.length_map, List.map_take] using hkM
                    · intro j hj
                      have hj2 : j ∈ (List.range (nm.length + 1)).filter fun k => (((sp3.filter dotS).take k).map (·.1)) == ((nm.take k).map (·.1)) := by simpa only [List.length_map, List.map_take] using hj
                      have := hMax _ (List.mem_map_of_mem hj2)
                      omega
                  have nt1 : (nm.take kM).length ≤ 1001 := by rw [List.length_take]; omega
                  have nt2 : ∀ p ∈ nm.take kM, p.1.length ≤ 1000 := fun p hp => hnb p (List.mem_of_mem_take hp)
                  have nt3 : (nm.take a3.toNat).length ≤ 1001 := by rw [List.length_take]; omega
                  have nt4 : ∀ p ∈ nm.take a3.toNat, p.1.length ≤ 1000 := fun p hp => hnb p (List.mem_of_mem_take hp)
                  k_steps
                  rename Obj.data _ = Data.cell (some (Value.ref DP)) => dP
                  rename Obj => oP
                  refine' rows_next (⟨S3, sp3, n3, a3, ta3, b3, tb3⟩, oP) _ [_, _, _, _, _, _, _, _] ?rF ?rN ?r1 ?r2 ?r3 ?r4 ?r5 ?r6 ?r7 ?r8 ?rg1 ?rg2
                  case rF => k_asm
                  case rN => k_asm
                  case r1 => k_mem
                  case r2 => k_mem
                  case r3 => k_mem
                  case r8 =>
                    refine ⟨⟨p1, p2, p3, p4, _, dP⟩, hsn _ _ ?_⟩
                    exact due_v hfS hmax p1 p2 p3
                  case r4 =>
                    intro p hp
                    simp only [List.mem_cons, List.not_mem_nil, or_false] at hp
                    rcases hp with rfl | rfl
                    · exact ⟨by unfold PSt.led; k_mem, by unfold PSt.led; exact o3I, by unfold PSt.led; exact o3R⟩
                    · exact ⟨by k_mem, x3, x4⟩
                  case r5 =>
                    intro p hp
                    rcases List.mem_cons.mp hp with rfl | hp
                    · k_mem
                    · repeat (first | exact hp | refine List.Mem.tail _ ?_)
                  case r6 => k_ne
                  case r7 => k_ne
                  case rg1 =>
                    intro q hq
                    simp only [PSt.names, List.mem_cons, List.not_mem_nil, or_false] at hq
                    rcases hq with hq | hq | hq <;> subst hq <;> exact rfl
                  case rg2 =>
                    intro z z1 z2 z3
                    have w1 : z ≠ Str.ofString "spelled" := z2 _ (.head _)
                    have w2 : z ≠ Str.ofString "shared" := z2 _ (.tail _ (.head _))
                    have w3 : z ≠ Str.ofString "behind" := z2 _ (.tail _ (.tail _ (.head _)))
                    have w4 : z ≠ Str.ofString "piece" := by intro e; rw [e] at z3; exact absurd z3 (by decide +kernel)
                    have w5 : z ≠ Str.ofString "full" := by intro e; rw [e] at z3; exact absurd z3 (by decide +kernel)
                    simp only [PSt.names, kstB, z1, w1, w2, w3, w4, w5, z3, if_false, Bool.false_eq_true]
  case done =>
    rintro qs k ⟨⟨S, sp, kn, a, ta, b, tb⟩, oc⟩ u h tk ⟨_, hrows⟩ F7 N7
    k_steps
    refine hret _ _ _ (Fr.keep (by k_asm)) ⟨_, qs, k, rfl, (N7 _ (.head _)).1, fun p hp => (N7 p (.tail _ (List.mem_append_right _ (List.mem_append_right _ hp)))).1, ?_⟩
    rw [show (strValues st).length = st.length by simp [strValues]] at hrows
    exact hrows
end

end
end
noncomputable section
open PySem PySem.W PyProof.Rows
namespace Pl
/-- the codes of a path whose pieces are l: a slash ahead of each -/
def Pc (l : List Str) : List Nat := l.flatMap fun p => 47 :: p.cps.toList
def T (l : List Str) : Str := ⟨(Pc l).toArray⟩
def SF (p : Str) : Prop := 47 ∉ p.cps.toList
theorem Pc_cons (p : Str) (l : List Str) : Pc (p :: l) = 47 :: (p.cps.toList ++ Pc l) := by simp [Pc]
theorem Pc_app (l m : List Str) : Pc (l ++ m) = Pc l ++ Pc m := by simp [Pc]
theorem str_eq {x y : Str} (h : x.cps.toList = y.cps.toList) : x = y := Str.ext' (Array.toList_inj.mp h)
theorem app_cps (x y : Str) : (x ++ y).cps.toList = x.cps.toList ++ y.cps.toList := by rw [Str.cps_append, Array.toList_append]
theorem T_cps (l : List Str) : (T l).cps.toList = Pc l := by simp [T]
theorem T_app (l m : List Str) : T l ++ T m = T (l ++ m) := str_eq (by rw [app_cps, T_cps, T_cps, T_cps, Pc_app])
theorem sl_mk : Str.ofString "/" = ⟨#[47]⟩ := by decide +kernel
theorem nil_mk : Str.ofString "" = ⟨#[]⟩ := by decide +kernel
theorem T_sl : T [Str.ofString ""] = Str.ofString "/" := str_eq (by rw [T_cps, sl_mk, nil_mk]; rfl)
theorem T_nil : T [] = Str.ofString "" := str_eq (by rw [T_cps, nil_mk]; rfl)
theorem join_T : ∀ (l : List Str) (x : Str), Str.join ⟨#[47]⟩ (x :: l) = x ++ T l
  | [], x => str_eq (by rw [app_cps, T_cps]; simp [Str.join, Pc])
  | y :: r, x => by
    show x ++ ⟨#[47]⟩ ++ Str.join ⟨#[47]⟩ (y :: r) = _
    rw [join_T r y]
    refine str_eq ?_
    rw [app_cps, app_cps, app_cps, app_cps, T_cps, T_cps, Pc_cons]
    simp
theorem txt_join (l : List Str) : Txt.join (Str.ofString "/") l = Str.join ⟨#[47]⟩ l := by
  rw [sl_mk]
  exact StrLaws.glued_eq_join _ _
def rooted (s : List Str) : List Str := if s = [] then [Str.ofString ""] else s
theorem slash_join (s : List Str) : Str.ofString "/" ++ Txt.join (Str.ofString "/") s = T (rooted s) := by
  rw [txt_join]
  cases s with
  | nil =>
    rw [rooted, if_pos rfl, T_sl]
    exact str_eq (by rw [app_cps]; simp [Str.join, Str.empty])
  | cons x r =>
    rw [rooted, if_neg (by simp), join_T, sl_mk]
    refine str_eq ?_
    rw [app_cps, app_cps, T_cps, T_cps, Pc_cons]
    rfl
theorem head_Pc (l : List Str) : Pc l = [] ∨ ∃ r, Pc l = 47 :: r := by
  cases l with
  | nil => exact .inl rfl
  | cons p r => exact .inr ⟨_, Pc_cons p r⟩
theorem cut_pre : ∀ {x y u v : List Nat}, 47 ∉ x → 47 ∉ y → (v = [] ∨ ∃ r, v = 47 :: r) → x ++ 47 :: u <+: y ++ v → x = y ∧ 47 :: u <+: v
  | [], [], _, _, _, _, _, h => ⟨rfl, h⟩
  | [], b :: y, u, v, _, hy, _, h => by
    simp only [List.nil_append, List.cons_append, List.cons_prefix_cons] at h
    exact absurd (.head _) (h.1 ▸ hy)
  | a :: x, [], u, v, hx, _, hv, h => by
    rcases hv with rfl | ⟨r, rfl⟩
    · simp at h
    · simp only [List.nil_append, List.cons_append, List.cons_prefix_cons] at h
      exact absurd (.head _) (h.1 ▸ hx)
  | a :: x, b :: y, u, v, hx, hy, hv, h => by
    simp only [List.cons_append, List.cons_prefix_cons] at h
    obtain ⟨e1, e2⟩ := cut_pre (fun m => hx (.tail _ m)) (fun m => hy (.tail _ m)) hv h.2
    exact ⟨by rw [h.1, e1], e2⟩
theorem cut_eq : ∀ {x y u v : List Nat}, 47 ∉ x → 47 ∉ y → (u = [] ∨ ∃ r, u = 47 :: r) → (v = [] ∨ ∃ r, v = 47 :: r) → x ++ u = y ++ v → x = y ∧ u = v
  | [], [], _, _, _, _, _, _, h => ⟨rfl, h⟩
  | [], b :: y, u, v, _, hy, hu, _, h => by
    rcases hu with rfl | ⟨r, rfl⟩
    · simp at h
    · simp only [List.nil_append, List.cons_append, List.cons.injEq] at h
      exact absurd (.head _) (h.1 ▸ hy)
  | a :: x, [], u, v, hx, _, _, hv, h => by
    rcases hv with rfl | ⟨r, rfl⟩
    · simp at h
    · simp only [List.nil_append, List.cons_append, List.cons.injEq] at h
      exact absurd (.head _) (h.1 ▸ hx)
  | a :: x, b :: y, u, v, hx, hy, hu, hv, h => by
    simp only [List.cons_append, List.cons.injEq] at h
    obtain ⟨e1, e2⟩ := cut_eq (fun m => hx (.tail _ m)) (fun m => hy (.tail _ m)) hu hv h.2
    exact ⟨by rw [h.1, e1], e2⟩
theorem Pc_inj : ∀ {l m : List Str}, (∀ p ∈ l, SF p) → (∀ p ∈ m, SF p) → Pc l = Pc m → l = m
  | [], [], _, _, _ => rfl
  | [], p :: m, _, _, h => by rw [Pc_cons] at h; simp [Pc] at h
  | p :: l, [], _, _, h => by rw [Pc_cons] at h; simp [Pc] at h
  | p :: l, q :: m, hl, hm, h => by
    rw [Pc_cons, Pc_cons, List.cons.injEq] at h
    obtain ⟨e1, e2⟩ := cut_eq (hl p (.head _)) (hm q (.head _)) (head_Pc l) (head_Pc m) h.2
    rw [str_eq e1, Pc_inj (fun p h => hl p (.tail _ h)) (fun p h => hm p (.tail _ h)) e2]
theorem T_inj {l m : List Str} (hl : ∀ p ∈ l, SF p) (hm : ∀ p ∈ m, SF p) (h : T l = T m) : l = m := Pc_inj hl hm (by rw [← T_cps, h, T_cps])
theorem Pc_pre : ∀ {l m : List Str}, (∀ p ∈ l, SF p) → (∀ p ∈ m, SF p) → (Pc (l ++ [Str.ofString ""]) <+: Pc m ↔ l <+: m ∧ l.length < m.length)
  | [], m, _, _ => by
    rw [List.nil_append, Pc_cons, nil_mk]
    cases m with
    | nil => simp [Pc]
    | cons q m => rw [Pc_cons]; simp [Pc]
  | p :: l, [], _, _ => by rw [List.cons_append, Pc_cons]; simp [Pc]
  | p :: l, q :: m, hl, hm => by
    have ih := Pc_pre (l := l) (m := m) (fun p h => hl p (.tail _ h)) (fun p h => hm p (.tail _ h))
    rw [List.cons_append, Pc_cons, Pc_cons, List.cons_prefix_cons, List.cons_prefix_cons]
    obtain ⟨u, hu⟩ : ∃ u, Pc (l ++ [Str.ofString ""]) = 47 :: u := by
      rcases head_Pc (l ++ [Str.ofString ""]) with e | e
      · rw [Pc_app] at e; simp [Pc] at e
      · exact e
    constructor
    · rintro ⟨_, h⟩
      rw [hu] at h
      obtain ⟨e1, e2⟩ := cut_pre (hl p (.head _)) (hm q (.head _)) (head_Pc m) h
      rw [← hu] at e2
      obtain ⟨i1, i2⟩ := ih.mp e2
      exact ⟨⟨str_eq e1, i1⟩, by simpa using i2⟩
    · rintro ⟨⟨e1, h1⟩, h2⟩
      subst e1
      exact ⟨rfl, (List.prefix_append_right_inj _).mpr (ih.mpr ⟨h1, by simpa using h2⟩)⟩
theorem sw_iff (x y : Str) : Txt.startswith x y = true ↔ y.cps.toList <+: x.cps.toList := by
  unfold Txt.startswith
  rw [Bool.and_eq_true, decide_eq_true_eq, StrLaws.subAt_eq, List.drop_zero, beq_iff_eq]
  constructor
  · rintro ⟨_, h⟩
    exact ⟨x.cps.toList.drop y.length, by rw [← h]; exact List.take_append_drop _ _⟩
  · rintro h
    have h1 := h.length_le
    have h2 := List.prefix_iff_eq_take.mp h
    simp only [Array.length_toList] at h1 h2
    exact ⟨by show 0 + y.cps.size ≤ x.cps.size; omega, h2.symm⟩
theorem split_ne (x y : Str) : Txt.split x y ≠ [] := by
  unfold Txt.split
  split
  · simp
  · split
    · simp
    · rw [StrLaws.partsBetween_eq]
      obtain ⟨p, r, e⟩ := StrLaws.partsFrom_ne x y.length 0 (Builtin.Str.occurrences x y 0 x.length (x.length + 1))
      rw [e]
      simp
theorem split_T {x : Str} {l : List Str} (hx : SF x) (hl : ∀ p ∈ l, SF p) : Txt.split (x ++ T l) (Str.ofString "/") = x :: l := by
  have h1 := StrLaws.join_split (x ++ T l) ⟨#[47]⟩
  have h2 := StrLaws.split_free (x ++ T l) 47
  have h3 := split_ne (x ++ T l) ⟨#[47]⟩
  rw [sl_mk]
  generalize Txt.split (x ++ T l) ⟨#[47]⟩ = ps at h1 h2 h3
  cases ps with
  | nil => exact absurd rfl h3
  | cons p r =>
    rw [join_T] at h1
    have h4 := congrArg (fun z : Str => z.cps.toList) h1
    simp only [app_cps, T_cps] at h4
    obtain ⟨e1, e2⟩ := cut_eq (h2 p (.head _)) hx (head_Pc r) (head_Pc l) h4
    rw [str_eq e1, Pc_inj (fun p h => h2 p (.tail _ h)) hl e2]
theorem nil_app (x : Str) : Str.ofString "" ++ x = x := str_eq (by rw [app_cps, nil_mk]; rfl)
theorem app_nil (x : Str) : x ++ Str.ofString "" = x := str_eq (by rw [app_cps, nil_mk]; simp)
theorem app_as (x y z : Str) : x ++ y ++ z = x ++ (y ++ z) := Str.append_assoc x y z
theorem SF_nil : SF (Str.ofString "") := by rw [nil_mk]; simp [SF]
theorem split_T0 {l : List Str} (hl : ∀ p ∈ l, SF p) : Txt.split (T l) (Str.ofString "/") = Str.ofString "" :: l := by
  have := split_T SF_nil hl
  rwa [nil_app] at this
theorem T_cons (x : Str) (l : List Str) : T (x :: l) = Str.ofString "/" ++ (x ++ T l) := str_eq (by rw [T_cps, Pc_cons, app_cps, app_cps, T_cps, sl_mk]; rfl)
theorem sl_len : (Str.ofString "/").cps.toList = [47] := by rw [sl_mk]
theorem slice_1 {x : Str} {l : List Str} : Txt.slice (T (x :: l)) (some 1) none = x ++ T l := by
  have e : (T (x :: l)).cps.toList = 47 :: (x ++ T l).cps.toList := by rw [T_cons, app_cps, sl_len]; rfl
  refine (StrLaws.sliceText_from ⟨by decide, by rw [e]; simp; omega⟩).trans (str_eq ?_)
  rw [e]
  have e2 : (((47 :: (x ++ T l).cps.toList).length : Int) - 1).toNat = (x ++ T l).cps.toList.length := by rw [List.length_cons]; omega
  rw [e2]
  show List.take _ (x ++ T l).cps.toList = _
  exact List.take_length
theorem slice_0 {x : Str} {l : List Str} : Txt.slice (T (x :: l)) none (some 1) = Str.ofString "/" := by
  have e : (T (x :: l)).cps.toList = 47 :: (x ++ T l).cps.toList := by rw [T_cons, app_cps, sl_len]; rfl
  refine (StrLaws.sliceText_to ⟨by decide, by rw [e]; simp; omega⟩).trans (str_eq ?_)
  rw [e, sl_len]
  simp
theorem slice_last {x : Str} {a : Nat} {l : List Nat} (e : x.cps.toList = l ++ [a]) : Txt.slice x (some (-1)) none = ⟨#[a]⟩ := by
  have hn : x.length = l.length + 1 := by
    have := congrArg List.length e
    simpa [Str.length] using this
  refine (StrLaws.sliceText_from_neg (by decide) (by omega)).trans (str_eq ?_)
  rw [e, hn]
  have e1 : ((-1 : Int) + ((l.length + 1 : Nat) : Int)).toNat = l.length := by omega
  have e2 : (((l ++ [a]).length : Int) - (-1 + ((l.length + 1 : Nat) : Int))).toNat = 1 := by rw [List.length_append, List.length_singleton]; omega
  rw [e1, e2]
  simp
theorem slice_init {x : Str} {a : Nat} {l : List Nat} (e : x.cps.toList = l ++ [a]) : Txt.slice x none (some (-1)) = ⟨l.toArray⟩ := by
  have hn : x.length = l.length + 1 := by
    have := congrArg List.length e
    simpa [Str.length] using this
  refine (StrLaws.sliceText_to_neg (by decide) (by omega)).trans (str_eq ?_)
  rw [e, hn]
  have e1 : ((-1 : Int) + ((l.length + 1 : Nat) : Int) - 0).toNat = l.length := by omega
  rw [e1]
  simp
structure Gp (p : Str) : Prop where
  sf : SF p
  pos : 0 < p.length
  le : p.length ≤ 2
structure Wd (p : Str) : Prop where
  g : Gp p
  d1 : p ≠ Str.ofString "."
  d2 : p ≠ Str.ofString ".."
theorem nil_len : (Str.ofString "").length = 0 := by rw [nil_mk]; rfl
theorem Gp.ne {p : Str} (g : Gp p) : p ≠ Str.ofString "" := by
  intro e
  have := g.pos
  rw [e, nil_len] at this
  omega
theorem Gp.nb {p : Str} (g : Gp p) : (p != Str.ofString "") = true := by simpa using g.ne
theorem lcp_nil (x : List Str) : lcp x [] = [] := by cases x <;> rfl
theorem lcp_le1 : ∀ x y : List Str, (lcp x y).length ≤ x.length
  | [], [] => Nat.le_refl _
  | [], _ :: _ => Nat.le_refl _
  | _ :: _, [] => Nat.zero_le _
  | x :: xs, y :: ys => by
    simp only [lcp]
    split
    · simpa using lcp_le1 xs ys
    · simp
theorem lcp_le2 (x y : List Str) : (lcp x y).length ≤ y.length := by rw [lcp_comm]; exact lcp_le1 y x
theorem lcp_take : ∀ x y : List Str, x.take (lcp x y).length = lcp x y
  | [], [] => rfl
  | [], _ :: _ => rfl
  | _ :: _, [] => rfl
  | x :: xs, y :: ys => by
    simp only [lcp]
    split
    · simp [lcp_take xs ys]
    · simp
theorem lcp_snoc : ∀ (nm st : List Str) (p : Str), lcp nm (st ++ [p]) = if (lcp nm st).length = st.length ∧ (nm.drop st.length).take 1 = [p] then lcp nm st ++ [p] else lcp nm st
  | [], [], p => by simp [lcp]
  | [], _ :: _, p => by simp [lcp]
  | x :: xs, [], p => by
    rw [lcp_nil]
    show (if x = p then x :: lcp xs [] else []) = _
    rw [lcp_nil]
    by_cases h : x = p <;> simp [h]
  | x :: xs, y :: ys, p => by
    show (if x = y then x :: lcp xs (ys ++ [p]) else []) = _
    have e : lcp (x :: xs) (y :: ys) = if x = y then x :: lcp xs ys else [] := rfl
    rw [e]
    by_cases h : x = y
    · rw [if_pos h, if_pos h, lcp_snoc xs ys p]
      simp only [List.length_cons, Nat.add_right_cancel_iff, List.drop_succ_cons]
      split <;> rfl
    · rw [if_neg h, if_neg h, if_neg (by simp)]
theorem lcp_full : ∀ nm st : List Str, (lcp nm st).length = nm.length ↔ st.take nm.length = nm
  | [], st => by simp [lcp]
  | x :: xs, [] => by simp [lcp]
  | x :: xs, y :: ys => by
    have ih := lcp_full xs ys
    simp only [lcp, List.length_cons, List.take_succ_cons, List.cons.injEq]
    by_cases h : x = y
    · rw [if_pos h]
      simp [h, ih]
    · rw [if_neg h]
      simp [Ne.symm h]
theorem lcp_max : ∀ (nm pl : List Str) (j : Nat), pl.take j = nm.take j → j ≤ nm.length → j ≤ (lcp nm pl).length
  | _, _, 0, _, _ => Nat.zero_le _
  | [], _, j + 1, _, h => by simp at h
  | x :: xs, [], j + 1, h, _ => by simp at h
  | x :: xs, y :: ys, j + 1, h, hj => by
    simp only [List.take_succ_cons, List.cons.injEq] at h
    have := lcp_max xs ys j h.2 (by simpa using hj)
    simp only [lcp, h.1, if_true, List.length_cons]
    omega
theorem lcp_take2 (x y : List Str) : y.take (lcp x y).length = lcp x y := by rw [lcp_comm]; exact lcp_take y x
theorem maxK_lcp (nm pl : List Str) : maxK nm pl = (lcp nm pl).length := by
  refine maxK_eq (List.mem_filter.mpr ⟨List.mem_range.mpr ?_, ?_⟩) fun j hj => ?_
  · have := lcp_le1 nm pl
    omega
  · rw [lcp_take2, lcp_take]
    exact beq_self_eq_true _
  · obtain ⟨h1, h2⟩ := List.mem_filter.mp hj
    exact lcp_max nm pl j (eq_of_beq h2) (by have := List.mem_range.mp h1; omega)
theorem nst_e (st : List Str) : normStep st (Str.ofString "") = st := by rw [normStep, if_pos (.inl nil_len)]
theorem nst_dot (st : List Str) : normStep st (Str.ofString ".") = st := by rw [normStep, if_pos (.inr rfl)]
theorem nst_push {st : List Str} {p : Str} (w : Wd p) : normStep st p = st ++ [p] := by
  have := w.g.pos
  rw [normStep, if_neg (by rintro (h | h); omega; exact w.d1 h), if_pos (.inl w.d2)]
theorem dd_ne : ¬ ((Str.ofString "..").length = 0 ∨ Str.ofString ".." = Str.ofString ".") := by decide +kernel
theorem nst_pop {st : List Str} (hs : ∀ q ∈ st, Wd q) : normStep st (Str.ofString "..") = st.dropLast := by
  rw [normStep, if_neg dd_ne, if_neg]
  rintro (h | h)
  · exact h rfl
  · exact (hs _ (List.mem_of_getLast? h)).d2 rfl
/-- the two numbers of the due list beside the stack of names -/
structure Num (nm st : List Str) (a b : Int) : Prop where
  ws : ∀ q ∈ st, Wd q
  ha : a = ((lcp nm st).length : Int)
  hb : a + b = (st.length : Int)
theorem num_pop {nm st : List Str} {q : Str} {a b : Int} (n : Num nm (st ++ [q]) a b) : (0 < b ∧ Num nm st a (b - 1)) ∨ (b = 0 ∧ 0 < a ∧ Num nm st (a - 1) b) := by
  have h1 := lcp_snoc nm st q
  have h2 := n.ha
  have h3 := n.hb
  have hw : ∀ p ∈ st, Wd p := fun p hp => n.ws p (List.mem_append_left _ hp)
  rw [List.length_append, List.length_singleton] at h3
  have h4 := lcp_le2 nm st
  by_cases h : (lcp nm st).length = st.length ∧ (nm.drop st.length).take 1 = [q]
  · rw [if_pos h] at h1
    rw [h1, List.length_append, List.length_singleton] at h2
    have := h.1
    exact .inr ⟨by omega, by omega, hw, by omega, by omega⟩
  · rw [if_neg h] at h1
    rw [h1] at h2
    exact .inl ⟨by omega, hw, h2, by omega⟩
theorem pst_sp {nm : List Str} {d : DSt} {p : Str} (h : (p != Str.ofString "") = true) : (pstep nm d p).sp = d.sp ++ [p] := by
  unfold pstep
  rw [if_pos h]
  dsimp only
  split
  · split
    · rfl
    · split <;> rfl
  · split
    · split <;> rfl
    · rfl
theorem pst_e {nm : List Str} {d : DSt} : pstep nm d (Str.ofString "") = d := by
  unfold pstep
  have e1 : ¬ (Str.ofString "" != Str.ofString "") = true := by decide +kernel
  have e2 : ¬ (Str.ofString "" == Str.ofString "..") = true := by decide +kernel
  rw [if_neg e1]
  dsimp only
  rw [if_neg e2, if_neg (fun h => e1 h.1)]
theorem pst_num {nm st : List Str} {d : DSt} {p : Str} (g : Gp p) (n : Num nm st d.a d.b) : Num nm (normStep st p) (pstep nm d p).a (pstep nm d p).b := by
  unfold pstep
  dsimp only
  by_cases h2 : p = Str.ofString ".."
  · subst h2
    rw [if_pos (beq_self_eq_true _), nst_pop n.ws]
    rcases List.eq_nil_or_concat st with rfl | ⟨s, q, rfl⟩
    · have h3 := n.ha
      have h4 := n.hb
      rw [lcp_nil] at h3
      simp only [List.length_nil] at h3 h4
      rw [if_neg (by omega), if_neg (by omega)]
      exact ⟨by simp, by rw [h3]; simp [lcp_nil], by simpa using h4⟩
    · rw [List.concat_eq_append] at n ⊢
      rw [List.dropLast_concat]
      rcases num_pop n with ⟨h5, h6⟩ | ⟨h5, h6, h7⟩
      · rw [if_pos h5]; exact h6
      · rw [if_neg (by omega), if_pos h6]; exact h7
  · have h3 : (p == Str.ofString "..") = false := by simpa using h2
    rw [h3, if_neg (by decide)]
    by_cases h1 : p = Str.ofString "."
    · subst h1
      have e : ¬ ((Str.ofString "." != Str.ofString "") = true ∧ (Str.ofString "." != Str.ofString ".") = true) := by decide +kernel
      rw [if_neg e, nst_dot]
      exact n
    · have w : Wd p := ⟨g, h1, h2⟩
      rw [if_pos ⟨g.nb, by simpa using h1⟩, nst_push w]
      have h4 := n.ha
      have h5 := n.hb
      have h6 := lcp_snoc nm st p
      have h7 := lcp_le2 nm st
      have hw : ∀ q ∈ st ++ [p], Wd q := fun q hq => (List.mem_append.mp hq).elim (n.ws q) fun hq => List.mem_singleton.mp hq ▸ w
      by_cases hb : d.b = 0
      · have e : d.a.toNat = st.length := by omega
        rw [e]
        by_cases hc : (nm.drop st.length).take 1 = [p]
        · rw [if_pos ⟨hb, by simpa using hc⟩]
          rw [if_pos ⟨by omega, hc⟩] at h6
          exact ⟨hw, by rw [h6, List.length_append, List.length_singleton]; push_cast; omega, by rw [List.length_append, List.length_singleton]; push_cast; omega⟩
        · rw [if_neg (fun h => hc (by simpa using h.2))]
          rw [if_neg (fun h => hc h.2)] at h6
          exact ⟨hw, by rw [h6]; exact h4, by rw [List.length_append, List.length_singleton]; push_cast; omega⟩
      · rw [if_neg (fun h => hb h.1)]
        rw [if_neg (fun h => hb (by omega))] at h6
        exact ⟨hw, by rw [h6]; exact h4, by rw [List.length_append, List.length_singleton]; push_cast; omega⟩
theorem pst_fold {nm : List Str} : ∀ (ws : List Str) (d : DSt) (st : List Str), (∀ p ∈ ws, Gp p) → Num nm st d.a d.b → (ws.foldl (pstep nm) d).sp = d.sp ++ ws ∧ Num nm (ws.foldl normStep st) (ws.foldl (pstep nm) d).a (ws.foldl (pstep nm) d).b
  | [], d, st, _, n => ⟨by simp, n⟩
  | p :: ws, d, st, h, n => by
    obtain ⟨h1, h2⟩ := pst_fold ws (pstep nm d p) (normStep st p) (fun q hq => h q (.tail _ hq)) (pst_num (h p (.head _)) n)
    rw [List.foldl_cons, List.foldl_cons]
    refine ⟨?_, h2⟩
    rw [h1, pst_sp (h p (.head _)).nb]
    simp
/-- a step taken apart: rooted or not, its pieces, a slash behind or not -/
structure Dec (y : Str) (ab : Bool) (ws e : List Str) : Prop where
  gp : ∀ p ∈ ws, Gp p
  he : e = [] ∨ e = [Str.ofString ""]
  ne : ws = [] → ab = false ∧ e = [Str.ofString ""]
  sp : Txt.split y (Str.ofString "/") = (if ab = true then [Str.ofString ""] else []) ++ (ws ++ e)
  eq : (if ab = true then y else Str.ofString "/" ++ y) = T (ws ++ e)
  sw : Txt.startswith y (Str.ofString "/") = ab
  s1 : (Txt.slice y none (some 1) == Str.ofString "/") = ab
  sl : ([Str.ofString "", Str.ofString "/"].any fun x => x == Txt.slice y (some (-1)) none) = !e.isEmpty
  len : ws.length ≤ 2
theorem gp_a : Gp (Str.ofString "a") := ⟨by unfold SF; decide +kernel, by decide +kernel, by decide +kernel⟩
theorem gp_b : Gp (Str.ofString "b") := ⟨by unfold SF; decide +kernel, by decide +kernel, by decide +kernel⟩
theorem gp_ab : Gp (Str.ofString "ab") := ⟨by unfold SF; decide +kernel, by decide +kernel, by decide +kernel⟩
theorem gp_d : Gp (Str.ofString ".") := ⟨by unfold SF; decide +kernel, by decide +kernel, by decide +kernel⟩
theorem gp_dd : Gp (Str.ofString "..") := ⟨by unfold SF; decide +kernel, by decide +kernel, by decide +kernel⟩
theorem gp1 {p : Str} (h : Gp p) : ∀ q ∈ [p], Gp q := fun q hq => List.mem_singleton.mp hq ▸ h
theorem gp2 {p r : Str} (h : Gp p) (h2 : Gp r) : ∀ q ∈ [p, r], Gp q := fun q hq => (List.mem_cons.mp hq).elim (fun e => e ▸ h) (gp1 h2 q)
theorem dec_of : ∀ y ∈ stepTab, ∃ ab ws e, Dec y ab ws e := by
  intro y hy
  simp only [stepTab, List.mem_cons, List.not_mem_nil, or_false] at hy
  rcases hy with rfl | rfl | rfl | rfl | rfl | rfl | rfl | rfl | rfl | rfl
  · exact ⟨false, [Str.ofString "a"], [], gp1 gp_a, .inl rfl, by simp, by decide +kernel, by decide +kernel, by decide +kernel, by decide +kernel, by decide +kernel, by decide⟩
  · exact ⟨false, [Str.ofString "b"], [], gp1 gp_b, .inl rfl, by simp, by decide +kernel, by decide +kernel, by decide +kernel, by decide +kernel, by decide +kernel, by decide⟩
  · exact ⟨false, [Str.ofString ".."], [], gp1 gp_dd, .inl rfl, by simp, by decide +kernel, by decide +kernel, by decide +kernel, by decide +kernel, by decide +kernel, by decide⟩
  · exact ⟨false, [Str.ofString "."], [], gp1 gp_d, .inl rfl, by simp, by decide +kernel, by decide +kernel, by decide +kernel, by decide +kernel, by decide +kernel, by decide⟩
  · exact ⟨false, [], [Str.ofString ""], by simp, .inr rfl, by simp, by decide +kernel, by decide +kernel, by decide +kernel, by decide +kernel, by decide +kernel, by decide⟩
  · exact ⟨false, [Str.ofString "..", Str.ofString "a"], [], gp2 gp_dd gp_a, .inl rfl, by simp, by decide +kernel, by decide +kernel, by decide +kernel, by decide +kernel, by decide +kernel, by decide⟩
  · exact ⟨true, [Str.ofString "ab"], [], gp1 gp_ab, .inl rfl, by simp, by decide +kernel, by decide +kernel, by decide +kernel, by decide +kernel, by decide +kernel, by decide⟩
  · exact ⟨false, [Str.ofString "ab"], [Str.ofString ""], gp1 gp_ab, .inr rfl, by simp, by decide +kernel, by decide +kernel, by decide +kernel, by decide +kernel, by decide +kernel, by decide⟩
  · exact ⟨true, [Str.ofString "a", Str.ofString "b"], [], gp2 gp_a gp_b, .inl rfl, by simp, by decide +kernel, by decide +kernel, by decide +kernel, by decide +kernel, by decide +kernel, by decide⟩
  · exact ⟨false, [Str.ofString "..", Str.ofString ".."], [], gp2 gp_dd gp_dd, .inl rfl, by simp, by decide +kernel, by decide +kernel, by decide +kernel, by decide +kernel, by decide +kernel, by decide⟩
theorem step_mem (i : Int) : stepF i ∈ stepTab := by
  unfold stepF
  have h : (i.fmod 10).toNat < stepTab.length := by
    have h1 := Int.fmod_lt_of_pos i (b := 10) (by decide)
    show _ < 10
    omega
  rw [List.getD_eq_getElem?_getD, List.getElem?_eq_getElem h]
  exact List.getElem_mem h
theorem names_mem (i : Int) : namesF i ∈ namesTab := by
  unfold namesF
  have h : (i.fmod 8).toNat < namesTab.length := by
    have h1 := Int.fmod_lt_of_pos i (b := 8) (by decide)
    show _ < 8
    omega
  rw [List.getD_eq_getElem?_getD, List.getElem?_eq_getElem h]
  exact List.getElem_mem h
theorem wd_a : Wd (Str.ofString "a") := ⟨gp_a, by decide +kernel, by decide +kernel⟩
theorem wd_b : Wd (Str.ofString "b") := ⟨gp_b, by decide +kernel, by decide +kernel⟩
theorem wd_ab : Wd (Str.ofString "ab") := ⟨gp_ab, by decide +kernel, by decide +kernel⟩
theorem names_wd : ∀ nm ∈ namesTab, (∀ p ∈ nm, Wd p) ∧ nm.length ≤ 3 := by
  intro nm hn
  simp only [namesTab, List.mem_cons, List.not_mem_nil, or_false] at hn
  rcases hn with rfl | rfl | rfl | rfl | rfl | rfl | rfl | rfl
  all_goals refine ⟨?_, by decide⟩
  all_goals simp only [List.mem_cons, List.not_mem_nil, or_false, forall_eq_or_imp, forall_eq, false_implies, implies_true]
  all_goals first | trivial | exact wd_a | exact wd_ab | exact ⟨wd_a, wd_b⟩ | exact ⟨wd_a, wd_a, wd_b⟩ | exact ⟨wd_b, wd_a⟩ | exact ⟨wd_ab, wd_a⟩ | exact ⟨wd_b, wd_a, wd_b⟩
/-- a trail: the pieces spelled, a slash behind or not -/
structure Tr (sp e : List Str) : Prop where
  gp : ∀ p ∈ sp, Gp p
  he : e = [] ∨ e = [Str.ofString ""]
  ne : sp = [] → e = [Str.ofString ""]
theorem Tr.sf {sp e : List Str} (t : Tr sp e) : ∀ p ∈ sp ++ e, SF p := by
  intro p hp
  rcases List.mem_append.mp hp with hp | hp
  · exact (t.gp p hp).sf
  · rcases t.he with rfl | rfl
    · cases hp
    · rw [List.mem_singleton.mp hp]; exact SF_nil
theorem tr_rooted {s : List Str} (h : ∀ p ∈ s, Gp p) : Tr s (if s = [] then [Str.ofString ""] else []) := by
  refine ⟨h, ?_, fun e => if_pos e⟩
  split
  · exact .inr rfl
  · exact .inl rfl
theorem rooted_eq (s : List Str) : rooted s = s ++ if s = [] then [Str.ofString ""] else [] := by
  unfold rooted
  split
  · rename_i h; rw [h]; rfl
  · simp
theorem Tr.cons {sp e : List Str} (t : Tr sp e) : ∃ x l, sp ++ e = x :: l := by
  cases sp with
  | nil => rw [t.ne rfl]; exact ⟨_, _, rfl⟩
  | cons x r => exact ⟨x, r ++ e, rfl⟩
/-- the tail of a text of pieces -/
theorem tail_sl (s : List Str) : Txt.slice (T (s ++ [Str.ofString ""])) (some (-1)) none = Str.ofString "/" := by
  have e : (T (s ++ [Str.ofString ""])).cps.toList = Pc s ++ [47] := by rw [T_cps, Pc_app, Pc_cons, nil_mk]; rfl
  rw [slice_last e, sl_mk]
theorem tail_word (s : List Str) {p : Str} (g : Gp p) : (Txt.slice (T (s ++ [p])) (some (-1)) none != Str.ofString "/") = true := by
  have h := g.pos
  have hne : p.cps.toList ≠ [] := by
    intro e
    have : p.cps.toList.length = 0 := by rw [e]; rfl
    rw [Array.length_toList] at this
    exact absurd h (by show ¬ 0 < p.cps.size; omega)
  obtain ⟨l, a, e⟩ : ∃ l a, p.cps.toList = l ++ [a] := ⟨_, _, (List.dropLast_concat_getLast hne).symm⟩
  have e2 : (T (s ++ [p])).cps.toList = (Pc s ++ 47 :: l) ++ [a] := by rw [T_cps, Pc_app, Pc_cons, e]; simp [Pc]
  rw [slice_last e2, sl_mk]
  have ha : a ≠ 47 := by
    rintro rfl
    exact g.sf (by rw [e]; simp)
  simpa using ha
theorem T_snoc_sl (s : List Str) : T s ++ Str.ofString "/" = T (s ++ [Str.ofString ""]) := by rw [← T_sl, T_app]
/-- what the prefix of is_suburi says of pieces -/
theorem sub_T {s l : List Str} (hs : ∀ p ∈ s, Gp p) (hl : ∀ p ∈ l, SF p) : suburiF (T (rooted s)) (T l) = true ↔ rooted s = l ∨ (s <+: l ∧ s.length < l.length) := by
  have hsf : ∀ p ∈ s, SF p := fun p hp => (hs p hp).sf
  have e : (if (Txt.slice (T (rooted s)) (some (-1)) none != Str.ofString "/") = true then T (rooted s) ++ Str.ofString "/" else T (rooted s)) = T (s ++ [Str.ofString ""]) := by
    rcases List.eq_nil_or_concat s with rfl | ⟨r, p, rfl⟩
    · have := tail_sl []
      rw [rooted, if_pos rfl]
      rw [List.nil_append] at this
      rw [this, if_neg (by simp)]
      rfl
    · rw [List.concat_eq_append] at hs ⊢
      have e3 : rooted (r ++ [p]) = r ++ [p] := if_neg (by simp)
      rw [e3, tail_word r (hs p (by simp)), if_pos rfl, T_snoc_sl]
  unfold suburiF
  rw [e]
  have hr : ∀ p ∈ rooted s, SF p := by
    intro p hp
    unfold rooted at hp
    split at hp
    · rw [List.mem_singleton.mp hp]; exact SF_nil
    · exact hsf p hp
  by_cases h : T (rooted s) = T l
  · rw [if_pos (by simpa using h)]
    exact ⟨fun _ => .inl (T_inj hr hl h), fun _ => rfl⟩
  · rw [if_neg (by simpa using h), sw_iff, T_cps, T_cps, Pc_pre hsf hl]
    constructor
    · exact .inr
    · rintro (e2 | h2)
      · exact absurd (by rw [e2]) h
      · exact h2
theorem nil_not {s : List Str} (hs : ∀ p ∈ s, Gp p) (h : Str.ofString "" ∈ s) : False := (hs _ h).ne rfl
theorem sub_take {s sp e : List Str} (hs : ∀ p ∈ s, Gp p) (t : Tr sp e) : suburiF (T (rooted s)) (T (sp ++ e)) = (sp.take s.length == s) := by
  have key : suburiF (T (rooted s)) (T (sp ++ e)) = true ↔ sp.take s.length = s := by
    rw [sub_T hs t.sf]
    constructor
    · rintro (h | ⟨h1, h2⟩)
      · unfold rooted at h
        split at h
        · rename_i h3; rw [h3]; rfl
        · rcases t.he with rfl | rfl
          · rw [h]; simp
          · exact (nil_not hs (by rw [h]; simp)).elim
      · have h4 := List.prefix_iff_eq_take.mp h1
        have h5 : s.length ≤ sp.length := by
          rcases t.he with rfl | rfl
          · simp at h2; omega
          · simp at h2; omega
        rw [List.take_append_of_le_length h5] at h4
        exact h4.symm
    · intro h
      have h1 : s <+: sp := by rw [← h]; exact List.take_prefix _ _
      have h2 := h1.length_le
      by_cases h3 : s.length < (sp ++ e).length
      · exact .inr ⟨h1.trans (List.prefix_append _ _), h3⟩
      · rw [List.length_append] at h3
        have h4 : e = [] := List.eq_nil_of_length_eq_zero (by omega)
        have h5 : s = sp := h1.eq_of_length (by omega)
        subst h4 h5
        refine .inl ?_
        unfold rooted
        rw [if_neg (fun h6 => by have := t.ne h6; cases this)]
        simp
  cases hc : (sp.take s.length == s) with
  | true => exact key.mpr (eq_of_beq hc)
  | false =>
    refine Bool.eq_false_iff.mpr fun h => ?_
    rw [key.mp h, beq_self_eq_true] at hc
    cases hc
theorem sub_slash {s sp : List Str} (hs : ∀ p ∈ s, Gp p) (hsp : ∀ p ∈ sp, Gp p) : suburiF (T (s ++ [Str.ofString ""])) (T (sp ++ [Str.ofString ""])) = (sp.take s.length == s) := by
  have key : suburiF (T (s ++ [Str.ofString ""])) (T (sp ++ [Str.ofString ""])) = true ↔ sp.take s.length = s := by
    have hsf : ∀ p ∈ s, SF p := fun p hp => (hs p hp).sf
    have hl : ∀ p ∈ sp ++ [Str.ofString ""], SF p := fun p hp => (List.mem_append.mp hp).elim (fun h => (hsp p h).sf) fun h => List.mem_singleton.mp h ▸ SF_nil
    unfold suburiF
    rw [tail_sl, if_neg (by simp : ¬ (Str.ofString "/" != Str.ofString "/") = true)]
    have h0 : Txt.startswith (T (sp ++ [Str.ofString ""])) (T (s ++ [Str.ofString ""])) = true ↔ sp.take s.length = s := by
      rw [sw_iff, T_cps, T_cps, Pc_pre hsf hl]
      constructor
      · rintro ⟨h1, h2⟩
        have h4 := List.prefix_iff_eq_take.mp h1
        rw [List.length_append, List.length_singleton] at h2
        rw [List.take_append_of_le_length (by omega)] at h4
        exact h4.symm
      · intro h
        have h1 : s <+: sp := by rw [← h]; exact List.take_prefix _ _
        have h2 := h1.length_le
        exact ⟨h1.trans (List.prefix_append _ _), by rw [List.length_append, List.length_singleton]; omega⟩
    by_cases h : T (s ++ [Str.ofString ""]) = T (sp ++ [Str.ofString ""])
    · rw [if_pos (by simpa using h)]
      rw [← h0, h]
      exact ⟨fun _ => (sw_iff _ _).mpr (List.prefix_refl _), fun _ => rfl⟩
    · rw [if_neg (by simpa using h)]
      exact h0
  cases hc : (sp.take s.length == s) with
  | true => exact key.mpr (eq_of_beq hc)
  | false =>
    refine Bool.eq_false_iff.mpr fun h => ?_
    rw [key.mp h, beq_self_eq_true] at hc
    cases hc
theorem ew_last {x : Str} {a : Nat} {l : List Nat} (e : x.cps.toList = l ++ [a]) : Txt.endswith x (Str.ofString "/") = (a == 47) := by
  have hn : x.length = l.length + 1 := by
    have := congrArg List.length e
    simpa [Str.length] using this
  unfold Txt.endswith
  rw [StrLaws.subAt_eq, sl_mk, hn, e]
  have h1 : (⟨#[47]⟩ : Str).length = 1 := rfl
  rw [h1, Nat.add_sub_cancel, List.drop_left]
  simp
theorem ew_sl (s : List Str) : Txt.endswith (T (s ++ [Str.ofString ""])) (Str.ofString "/") = true := by
  have e : (T (s ++ [Str.ofString ""])).cps.toList = Pc s ++ [47] := by rw [T_cps, Pc_app, Pc_cons, nil_mk]; rfl
  rw [ew_last e]
  rfl
theorem ew_word (s : List Str) {p : Str} (g : Gp p) : Txt.endswith (T (s ++ [p])) (Str.ofString "/") = false := by
  have h := g.pos
  have hne : p.cps.toList ≠ [] := by
    intro e
    have : p.cps.toList.length = 0 := by rw [e]; rfl
    rw [Array.length_toList] at this
    exact absurd h (by show ¬ 0 < p.cps.size; omega)
  obtain ⟨l, a, e⟩ : ∃ l a, p.cps.toList = l ++ [a] := ⟨_, _, (List.dropLast_concat_getLast hne).symm⟩
  have e2 : (T (s ++ [p])).cps.toList = (Pc s ++ 47 :: l) ++ [a] := by rw [T_cps, Pc_app, Pc_cons, e]; simp [Pc]
  rw [ew_last e2]
  have ha : a ≠ 47 := by
    rintro rfl
    exact g.sf (by rw [e]; simp)
  simpa using ha
theorem join_dec {sp e ws e' : List Str} {ab : Bool} {y : Str} (t : Tr sp e) (d : Dec y ab ws e') : joinF (T (sp ++ e)) y = T ((if ab = true then ws else sp ++ ws) ++ e') := by
  unfold joinF
  rw [d.sw]
  have h := d.eq
  cases ab with
  | true => exact h
  | false =>
    have h : Str.ofString "/" ++ y = T (ws ++ e') := h
    simp only [Bool.false_eq_true, if_false]
    rw [List.append_assoc, ← T_app sp (ws ++ e'), ← h]
    rcases t.he with rfl | rfl
    · rcases List.eq_nil_or_concat sp with rfl | ⟨r, p, rfl⟩
      · exact absurd (t.ne rfl) (by simp)
      · rw [List.concat_eq_append] at t ⊢
        rw [List.append_nil, ew_word r (t.gp p (by simp)), if_neg (by decide)]
    · rw [ew_sl, if_pos rfl, ← T_snoc_sl, app_as]
theorem tr_dec {sp e ws e' : List Str} {ab : Bool} {y : Str} (t : Tr sp e) (d : Dec y ab ws e') : Tr (if ab = true then ws else sp ++ ws) e' := by
  refine ⟨fun p hp => ?_, d.he, fun h => ?_⟩
  · cases ab with
    | true => exact d.gp p hp
    | false => exact (List.mem_append.mp hp).elim (t.gp p) (d.gp p)
  · cases ab with
    | true => exact (d.ne h).2
    | false => exact (d.ne (List.append_eq_nil_iff.mp h).2).2
theorem dec_nil : Dec (Str.ofString "") false [] [Str.ofString ""] := ⟨by simp, .inr rfl, by simp, by decide +kernel, by decide +kernel, by decide +kernel, by decide +kernel, by decide +kernel, by decide⟩
theorem join_nil {sp e : List Str} (t : Tr sp e) : joinF (T (sp ++ e)) (Str.ofString "") = T (sp ++ [Str.ofString ""]) := by
  have := join_dec t dec_nil
  rw [if_neg (by decide), List.append_nil] at this
  exact this
theorem dstep_dec {nm : List Str} {d : DSt} {ws e' : List Str} {ab : Bool} {y : Str} (c : Dec y ab ws e') : dstep nm d y = ws.foldl (pstep nm) (if ab = true then ⟨[], 0, 0⟩ else d) := by
  have e1 : dstart d y = if ab = true then ⟨[], 0, 0⟩ else d := by unfold dstart; rw [c.s1]
  have e2 : ∀ d : DSt, e'.foldl (pstep nm) d = d := by
    intro d
    rcases c.he with h | h
    · rw [h]; rfl
    · rw [h]; exact pst_e (nm := nm)
  have e3 : ∀ d : DSt, (if ab = true then [Str.ofString ""] else []).foldl (pstep nm) d = d := by
    intro d
    cases ab with
    | true => exact pst_e (nm := nm)
    | false => rfl
  unfold dstep
  rw [c.sp, e1, List.foldl_append, List.foldl_append, e3, e2]
structure Iv (nm : List Str) (z : Str) (d : DSt) (i : Nat) (e : List Str) : Prop where
  tr : Tr d.sp e
  z : z = T (d.sp ++ e)
  len : d.sp.length ≤ 2 * i
  num : Num nm (d.sp.foldl normStep []) d.a d.b
theorem num_nil (nm : List Str) : Num nm [] 0 0 := ⟨by simp, by rw [lcp_nil]; rfl, rfl⟩
theorem Iv.start (nm : List Str) : Iv nm (Str.ofString "/") ⟨[], 0, 0⟩ 0 [Str.ofString ""] := ⟨⟨by simp, .inr rfl, fun _ => rfl⟩, T_sl.symm, Nat.le_refl _, num_nil nm⟩
theorem Iv.step {nm : List Str} {z : Str} {d : DSt} {i : Nat} {e ws e' : List Str} {ab : Bool} {y : Str} (v : Iv nm z d i e) (c : Dec y ab ws e') : Iv nm (joinF z y) (dstep nm d y) (i + 1) e' := by
  have h1 := join_dec v.tr c
  have h2 := tr_dec v.tr c
  rw [← v.z] at h1
  rw [dstep_dec (nm := nm) (d := d) c, h1]
  have hl := c.len
  have hv := v.len
  cases ab with
  | true =>
    obtain ⟨f1, f2⟩ := pst_fold (nm := nm) ws ⟨[], 0, 0⟩ [] c.gp (num_nil nm)
    have f3 : (ws.foldl (pstep nm) ⟨[], 0, 0⟩).sp = ws := f1
    show Iv nm (T (ws ++ e')) (ws.foldl (pstep nm) ⟨[], 0, 0⟩) (i + 1) e'
    replace h2 : Tr ws e' := h2
    refine ⟨?_, ?_, ?_, ?_⟩ <;> rw [f3]
    · exact h2
    · omega
    · exact f2
  | false =>
    obtain ⟨f1, f2⟩ := pst_fold (nm := nm) ws d _ c.gp v.num
    rw [if_neg (by decide), if_neg (by decide)]
    refine ⟨?_, ?_, ?_, ?_⟩ <;> rw [f1]
    · exact h2
    · rw [List.length_append]; omega
    · rw [List.foldl_append]; exact f2
theorem fold_e {e : List Str} (h : e = [] ∨ e = [Str.ofString ""]) (st : List Str) : e.foldl normStep st = st := by
  rcases h with rfl | rfl
  · rfl
  · exact nst_e st
theorem norm_T {sp e : List Str} (t : Tr sp e) : normF (T (sp ++ e)) = T (rooted (sp.foldl normStep [])) := by
  obtain ⟨x, l, h⟩ := t.cons
  have hs := t.sf
  unfold normF
  rw [h] at hs ⊢
  rw [slice_1, split_T (hs x (.head _)) (fun p hp => hs p (.tail _ hp)), ← h, List.foldl_append, fold_e t.he, slash_join]
theorem nst_len (st : List Str) (p : Str) : (normStep st p).length ≤ st.length + 1 := by
  unfold normStep
  split
  · omega
  · split
    · simp
    · rw [List.length_dropLast]; omega
theorem fold_len : ∀ (ws st : List Str), (ws.foldl normStep st).length ≤ st.length + ws.length
  | [], st => Nat.le_refl _
  | p :: ws, st => by
    have h1 := fold_len ws (normStep st p)
    have h2 := nst_len st p
    rw [List.foldl_cons, List.length_cons]
    omega
theorem Pc_len : ∀ {l : List Str}, (∀ p ∈ l, p.length ≤ 2) → (Pc l).length ≤ 3 * l.length
  | [], _ => Nat.le_refl _
  | p :: l, h => by
    have h1 := Pc_len (l := l) fun q hq => h q (.tail _ hq)
    have h2 := h p (.head _)
    have h3 : p.cps.toList.length = p.length := by simp [Str.length]
    rw [Pc_cons, List.length_cons, List.length_append, List.length_cons]
    omega
theorem T_len {l : List Str} (h : ∀ p ∈ l, p.length ≤ 2) : (T l).length ≤ 3 * l.length := by
  have e : (T l).length = (Pc l).length := by simp [T, Str.length]
  rw [e]
  exact Pc_len h
theorem T_pos (x : Str) (l : List Str) : 0 < (T (x :: l)).length := by
  have e : (T (x :: l)).length = (Pc (x :: l)).length := by simp [T, Str.length]
  rw [e, Pc_cons]
  simp
theorem T_sw (x : Str) (l : List Str) : Txt.startswith (T (x :: l)) (Str.ofString "/") = true := by
  rw [sw_iff, T_cps, Pc_cons, sl_len]
  exact ⟨_, rfl⟩
theorem Tr.le {sp e : List Str} (t : Tr sp e) : (∀ p ∈ sp ++ e, p.length ≤ 2) ∧ e.length ≤ 1 := by
  rcases t.he with rfl | rfl
  · exact ⟨fun p hp => (t.gp p (by simpa using hp)).le, by simp⟩
  · refine ⟨fun p hp => ?_, by simp⟩
    rcases List.mem_append.mp hp with hp | hp
    · exact (t.gp p hp).le
    · rw [List.mem_singleton.mp hp, nil_len]; omega
theorem tr_sl {sp : List Str} (h : ∀ p ∈ sp, Gp p) : Tr sp [Str.ofString ""] := ⟨h, .inr rfl, fun _ => rfl⟩
theorem slice_12 {sp e : List Str} (t : Tr sp e) : (Txt.slice (T (sp ++ e)) (some 1) (some 2) != Str.ofString "/") = true := by
  cases sp with
  | nil => rw [t.ne rfl]; decide +kernel
  | cons p r =>
    have g := t.gp p (.head _)
    have h := g.pos
    have hne : p.cps.toList ≠ [] := by
      intro e
      have : p.cps.toList.length = 0 := by rw [e]; rfl
      rw [Array.length_toList] at this
      exact absurd h (by show ¬ 0 < p.cps.size; omega)
    obtain ⟨a, l, hp⟩ := List.exists_cons_of_ne_nil hne
    have e1 : (T (p :: r ++ e)).cps.toList = 47 :: a :: (l ++ Pc (r ++ e)) := by
      rw [T_cps, List.cons_append, Pc_cons, hp]; rfl
    have e2 : Txt.slice (T (p :: r ++ e)) (some 1) (some 2) = ⟨#[a]⟩ := by
      refine (StrLaws.sliceText_plain ⟨by decide, by decide, by rw [e1]; simp; omega⟩).trans (str_eq ?_)
      rw [e1]
      rfl
    rw [e2, sl_mk]
    have ha : a ≠ 47 := by
      rintro rfl
      exact g.sf (by rw [hp]; simp)
    simpa using ha
theorem Iv.goodT {nm : List Str} {z : Str} {d : DSt} {i : Nat} {e : List Str} (v : Iv nm z d i e) (hi : i ≤ 11) : GoodT z := by
  have hz := v.z
  subst hz
  have h1 := v.tr.le
  have h2 := T_len h1.1
  have h3 := v.len
  have h4 := h1.2
  rw [List.length_append] at h2
  have h5 := T_len (tr_sl v.tr.gp).le.1
  rw [List.length_append, List.length_singleton] at h5
  have hst : ∀ p ∈ d.sp.foldl normStep [], Gp p := fun p hp => (v.num.ws p hp).g
  have h6 := (tr_rooted hst).le
  rw [← rooted_eq] at h6
  have h7 := T_len h6.1
  have h8 := fold_len d.sp []
  have h9 := h6.2
  have h10 : (rooted (d.sp.foldl normStep [])).length ≤ (d.sp.foldl normStep []).length + 1 := by
    rw [rooted_eq, List.length_append]; omega
  rw [List.length_nil] at h8
  obtain ⟨x, l, hc⟩ := v.tr.cons
  have hs := v.tr.sf
  have hsp : Txt.split (Txt.slice (T (d.sp ++ e)) (some 1) none) (Str.ofString "/") = d.sp ++ e := by
    rw [hc] at hs ⊢
    rw [slice_1, split_T (hs x (.head _)) (fun p hp => hs p (.tail _ hp))]
  refine ⟨by omega, ?_, ?_, slice_12 v.tr, ?_, ?_, ?_, ?_, ?_, ?_⟩
  · rw [hc]; exact T_pos x l
  · rw [hc, slice_0]; simp
  · rw [hc]; exact T_sw x l
  · rw [join_nil v.tr]; omega
  · rw [hsp, List.length_append]; omega
  · rw [hsp]; intro p hp; have := h1.1 p hp; omega
  · rw [norm_T v.tr]; omega
  · rw [norm_T v.tr]
    obtain ⟨x2, l2, hc2⟩ := (tr_rooted hst).cons
    rw [rooted_eq, hc2]
    exact T_sw x2 l2
theorem goodF {nm : List Str} (h : ∀ p ∈ nm, Wd p) (hl : nm.length ≤ 3) : GoodF (T (rooted nm)) := by
  have hg : ∀ p ∈ nm, Gp p := fun p hp => (h p hp).g
  have h1 := (tr_rooted hg).le
  have h2 := T_len h1.1
  have h3 := h1.2
  rw [List.length_append] at h2
  have h5 := T_len (tr_sl hg).le.1
  rw [List.length_append, List.length_singleton] at h5
  obtain ⟨x, l, hc⟩ := (tr_rooted hg).cons
  rw [rooted_eq]
  refine ⟨by omega, ?_, ?_, ?_⟩
  · rw [hc]; exact T_pos x l
  · rw [hc]; exact T_sw x l
  · rw [join_nil (tr_rooted hg)]; omega
theorem Iv.goodD {nm : List Str} {z : Str} {d : DSt} {i : Nat} {e : List Str} (v : Iv nm z d i e) (hi : i ≤ 11) (hl : nm.length ≤ 3) : GoodD d := by
  have h1 := v.len
  have h2 := v.num.ha
  have h3 := v.num.hb
  have h4 := lcp_le1 nm (d.sp.foldl normStep [])
  have h5 := lcp_le2 nm (d.sp.foldl normStep [])
  have h6 := fold_len d.sp []
  rw [List.length_nil] at h6
  exact ⟨by omega, by omega, by omega, by omega, by omega⟩
theorem Gp.iw {p : Str} (g : Gp p) : isWord p = (p != Str.ofString ".") := by
  have h := g.pos
  unfold isWord
  have : (p.length != 0) = true := by simpa using (by omega : p.length ≠ 0)
  rw [this, Bool.true_and]
theorem Wd.iw {p : Str} (w : Wd p) : isWord p = true := by rw [w.g.iw]; simpa using w.d1
theorem iw_nil : isWord (Str.ofString "") = false := by decide +kernel
theorem sf_nil : someF (Str.ofString "") = false := by decide +kernel
theorem filt_gp : ∀ {l : List Str}, (∀ p ∈ l, Gp p) → l.filter isWord = l.filter fun p => p != Str.ofString "."
  | [], _ => rfl
  | p :: l, h => by rw [List.filter_cons, List.filter_cons, (h p (.head _)).iw, filt_gp fun q hq => h q (.tail _ hq)]
theorem filt_wd {l : List Str} (h : ∀ p ∈ l, Wd p) : l.filter isWord = l := List.filter_eq_self.mpr fun p hp => (h p hp).iw
theorem filt_sf {l : List Str} (h : ∀ p ∈ l, Gp p) : l.filter someF = l := List.filter_eq_self.mpr fun p hp => (h p hp).nb
theorem filt_e {e : List Str} (h : e = [] ∨ e = [Str.ofString ""]) : e.filter isWord = [] ∧ e.filter someF = [] := by
  rcases h with rfl | rfl
  · exact ⟨rfl, rfl⟩
  · rw [List.filter_cons, List.filter_cons, iw_nil, sf_nil]; exact ⟨rfl, rfl⟩
theorem split_iw {sp e : List Str} (t : Tr sp e) : (Txt.split (T (sp ++ e)) (Str.ofString "/")).filter isWord = sp.filter isWord := by
  rw [split_T0 t.sf, List.filter_cons, iw_nil, if_neg (by decide), List.filter_append, (filt_e t.he).1, List.append_nil]
theorem split_sf {sp e : List Str} (t : Tr sp e) : (Txt.split (T (sp ++ e)) (Str.ofString "/")).filter someF = sp := by
  rw [split_T0 t.sf, List.filter_cons, sf_nil, if_neg (by decide), List.filter_append, (filt_e t.he).2, List.append_nil, filt_sf t.gp]
theorem fullF_T (sp : List Str) : fullF sp = T (sp ++ [Str.ofString ""]) := by
  have h : ∀ (l : List Str) (x : Str), Str.join (Str.ofString "") (x :: l) = x ++ Str.join (Str.ofString "") l := by
    intro l x
    cases l with
    | nil => exact (app_nil x).symm
    | cons y r => show x ++ Str.ofString "" ++ Str.join (Str.ofString "") (y :: r) = _; rw [app_nil]
  have key : ∀ l : List Str, Str.ofString "/" ++ Str.join (Str.ofString "") (l.map (· ++ Str.ofString "/")) = T (l ++ [Str.ofString ""]) := by
    intro l
    induction l with
    | nil => rw [List.nil_append, T_sl]; exact app_nil _
    | cons x r ih =>
      rw [List.map_cons, h, app_as x, ih, List.cons_append, T_cons]
  unfold fullF
  show Str.ofString "/" ++ Builtin.Str.glued (Str.ofString "") _ = _
  rw [StrLaws.glued_eq_join]
  exact key sp
theorem full_cut (sp : List Str) : Txt.slice (fullF sp) none (some (-1)) = T sp := by
  have e : (fullF sp).cps.toList = Pc sp ++ [47] := by rw [fullF_T, T_cps, Pc_app, Pc_cons, nil_mk]; rfl
  rw [slice_init e]
  rfl
theorem Iv.row {nm : List Str} {z : Str} {d : DSt} {i : Nat} {ws e : List Str} {ab : Bool} {y : Str} (v : Iv nm z d i e) (c : Dec y ab ws e) (hn : ∀ p ∈ nm, Wd p) : toldRow (T (rooted nm)) z = dueRow nm d y := by
  have hg : ∀ p ∈ nm, Gp p := fun p hp => (hn p hp).g
  have tn := tr_rooted hg
  have ws' := v.num.ws
  have ha := v.num.ha
  have hb := v.num.hb
  have hnorm : normF z = T (rooted (d.sp.foldl normStep [])) := by rw [v.z]; exact norm_T v.tr
  generalize d.sp.foldl normStep [] = st at ws' ha hb hnorm
  have hst : ∀ p ∈ st, Gp p := fun p hp => (ws' p hp).g
  have ts := tr_rooted hst
  have l1 := lcp_le1 nm st
  have l2 := lcp_le2 nm st
  have i1 : (Txt.split (T (rooted nm)) (Str.ofString "/")).filter isWord = nm := by rw [rooted_eq, split_iw tn, filt_wd hn]
  have i2 : (Txt.split (T (rooted st)) (Str.ofString "/")).filter isWord = st := by rw [rooted_eq, split_iw ts, filt_wd ws']
  have i3 : (Txt.split z (Str.ofString "/")).filter isWord = d.sp.filter fun p => p != Str.ofString "." := by rw [v.z, split_iw v.tr, filt_gp v.tr.gp]
  have i4 : (Txt.split (T (rooted st)) (Str.ofString "/")).filter someF = st := by rw [rooted_eq, split_sf ts]
  have lf := lcp_full nm st
  have lg := lcp_full st nm
  rw [lcp_comm] at lg
  unfold toldRow dueRow
  rw [Row.mk.injEq, hnorm]
  refine ⟨?_, ?_, ?_, ?_, ?_, ?_, ?_, ?_⟩
  · rw [c.sl, v.z]
    rcases c.he with h | h
    · subst h
      rw [full_cut, List.append_nil, if_neg (by decide)]
    · subst h
      rw [fullF_T, if_pos (by decide)]
  · rw [v.z]; exact sub_take hg v.tr
  · rw [v.z, rooted_eq, join_nil tn, join_nil v.tr]; exact sub_slash hg v.tr.gp
  · rw [cpF, i1, i3, maxK_lcp, lcp_take]
  · rw [rooted_eq st, sub_take hg ts, Bool.eq_iff_iff, beq_iff_eq, beq_iff_eq, ← lf]
    omega
  · rw [rooted_eq nm, sub_take hst tn, Bool.eq_iff_iff, beq_iff_eq, beq_iff_eq, ← lg]
    omega
  · have e : d.a.toNat = (lcp nm st).length := by omega
    rw [cpF, i1, i2, e, lcp_take]
  · rw [i4]
    exact hb.symm
/-- what the law's walk asks of the folder and the steps -/
structure LawF (nm st : List Str) : Prop where
  gf : GoodF (Str.ofString "/" ++ Txt.join (Str.ofString "/") nm)
  nl : nm.length ≤ 8
  nb : ∀ p ∈ nm, p.length ≤ 1000
  sl : st.length ≤ 64
  sb : ∀ p ∈ st, p.length ≤ 10
  gt : ∀ i, i ≤ st.length → GoodT (trailAt st i)
  gd : ∀ i, i ≤ st.length → GoodD (dAt nm st i)
  row : ((List.range st.length).map fun i => toldRow (Str.ofString "/" ++ Txt.join (Str.ofString "/") nm) (trailAt st (i + 1))) = (List.range st.length).map fun i => dueRow nm (dAt nm st (i + 1)) (st.getD i Str.empty)
theorem iv_all {nm st : List Str} (hs : ∀ y ∈ st, y ∈ stepTab) : ∀ i, i ≤ st.length → ∃ e, Iv nm (trailAt st i) (dAt nm st i) i e
  | 0, _ => ⟨_, Iv.start nm⟩
  | i + 1, h => by
    obtain ⟨e, v⟩ := iv_all (nm := nm) hs i (by omega)
    have hy : st[i]? = some st[i] := List.getElem?_eq_getElem (by omega)
    obtain ⟨ab, ws, e', c⟩ := dec_of _ (hs _ (List.getElem_mem (by omega : i < st.length)))
    rw [trail_succ hy, d_succ hy]
    exact ⟨e', v.step c⟩
theorem iv_row {nm st : List Str} (hs : ∀ y ∈ st, y ∈ stepTab) (hn : ∀ p ∈ nm, Wd p) (i : Nat) (h : i < st.length) : toldRow (T (rooted nm)) (trailAt st (i + 1)) = dueRow nm (dAt nm st (i + 1)) (st.getD i Str.empty) := by
  obtain ⟨e, v⟩ := iv_all (nm := nm) hs i (by omega)
  have hy : st[i]? = some st[i] := List.getElem?_eq_getElem h
  obtain ⟨ab, ws, e', c⟩ := dec_of _ (hs _ (List.getElem_mem h))
  rw [trail_succ hy, d_succ hy, List.getD_eq_getElem?_getD, hy]
  exact (v.step c).row c hn
theorem step_len : ∀ y ∈ stepTab, y.length ≤ 10 := by decide +kernel
theorem law_facts (k : Int) (ns : List Int) (h : ns.length ≤ 11) : LawF (namesF k) (ns.map stepF) := by
  obtain ⟨hn, hl⟩ := names_wd _ (names_mem k)
  have hs : ∀ y ∈ ns.map stepF, y ∈ stepTab := by
    intro y hy
    obtain ⟨n, _, rfl⟩ := List.mem_map.mp hy
    exact step_mem n
  have hz : (ns.map stepF).length ≤ 11 := by rwa [List.length_map]
  generalize namesF k = nm at hn hl ⊢
  generalize ns.map stepF = st at hs hz ⊢
  refine ⟨?_, by omega, fun p hp => ?_, by omega, fun y hy => step_len y (hs y hy), fun i hi => ?_, fun i hi => ?_, ?_⟩
  · rw [slash_join]; exact goodF hn hl
  · have := (hn p hp).g.le
    omega
  · obtain ⟨e, v⟩ := iv_all (nm := nm) hs i hi
    exact v.goodT (by omega)
  · obtain ⟨e, v⟩ := iv_all (nm := nm) hs i hi
    exact v.goodD (by omega) hl
  · rw [slash_join]
    refine List.map_congr_left fun i hi => ?_
    exact iv_row hs hn i (List.mem_range.mp hi)
end Pl
end

noncomputable section
open PySem PySem.W PyProof.Rows PySem.Calls PySem.SeqAt
set_option maxRecDepth 100000
def SameV (v w : Value) : Prop := ∀ (A : Around) (s : Shared), EqAt A s v w true
theorem same_str (x : Str) (t u : Tok) : SameV (.str x t) (.str x u) := fun A s => by
  have := EqAt.str_str (A := A) (s := s) x t x u
  rwa [beq_self_eq_true] at this
theorem same_int (x : Int) (t u : Tok) : SameV (.int x t) (.int x u) := fun A s => by
  have := EqAt.int_int (A := A) (s := s) x t x u
  rwa [beq_self_eq_true] at this
theorem same_bool (x : Bool) : SameV (.bool x) (.bool x) := fun A s => EqAt.same _
theorem row_same {r : Row} {q p : Addr × List Value} (h1 : RowV r q) (h2 : RowV r p) : q.2.length = p.2.length ∧ ∀ (j : Nat) (a b : Value), q.2[j]? = some a → p.2[j]? = some b → SameV a b := by
  obtain ⟨k1, k2, k3, k4, e⟩ := h1
  obtain ⟨l1, l2, l3, l4, f⟩ := h2
  rw [e, f]
  refine ⟨rfl, fun j a b ha hb => ?_⟩
  match j with
  | 0 => cases ha; cases hb; exact same_str _ _ _
  | 1 => cases ha; cases hb; exact same_bool _
  | 2 => cases ha; cases hb; exact same_bool _
  | 3 => cases ha; cases hb; exact same_str _ _ _
  | 4 => cases ha; cases hb; exact same_bool _
  | 5 => cases ha; cases hb; exact same_bool _
  | 6 => cases ha; cases hb; exact same_str _ _ _
  | 7 => cases ha; cases hb; exact same_int _ _ _
  | j + 8 => simp at ha
theorem rows_at : ∀ {rs : List Row} {qs ps : List (Addr × List Value)}, RowsV rs qs → RowsV rs ps → qs.length = ps.length ∧ ∀ (j : Nat) (q p : Addr × List Value), qs[j]? = some q → ps[j]? = some p → ∃ r, RowV r q ∧ RowV r p
  | _, _, _, .nil, .nil => ⟨rfl, fun j q p h => by simp at h⟩
  | _, _, _, .cons h1 h2, .cons g1 g2 => by
    obtain ⟨e, ih⟩ := rows_at h2 g2
    refine ⟨by simp [e], fun j q p hq hp => ?_⟩
    cases j with
    | zero => simp at hq hp; subst hq hp; exact ⟨_, h1, g1⟩
    | succ j => exact ih j q p (by simpa using hq) (by simpa using hp)
section
variable {prog : Program} {w : World} {A : Around} {E : Value → Shared → Prop} {s : Shared}
theorem eq_rows {rs rs' : List Row} {qs ps : List (Addr × List Value)} {R1 R2 : Addr} {n1 n2 : Nat} {Q : Value → Shared → Prop} (e : rs = rs') (v1 : RowsV rs qs) (v2 : RowsV rs' ps) (l1 : s.heap.get? R1 = some (listOf (refsOf qs).toArray n1)) (l2 : s.heap.get? R2 = some (listOf (refsOf ps).toArray n2))
    (m1 : ∀ p ∈ rsOf qs, s.heap.get? p.1 = some p.2) (m2 : ∀ p ∈ rsOf ps, s.heap.get? p.1 = some p.2) (hu : A.units + 1 < cLine) (h : Q (.bool true) s) : wpAny (model prog w) A (compareOp .Eq (.ref R1) (.ref R2)) Q E s := by
  subst e
  obtain ⟨hl, hat⟩ := rows_at v1 v2
  refine eq_listAt (e := fun _ => true) ⟨_, l1, rfl, _, rfl⟩ ⟨_, l2, rfl, _, rfl⟩ (by simp [refsOf, hl]) (by omega) ?_ ?_
  · intro j h1 h2
    have j1 : j < qs.length := by simpa [refsOf] using h1
    have j2 : j < ps.length := by simpa [refsOf] using h2
    have e1 : (refsOf qs).toArray[j] = Value.ref qs[j].1 := by simp [refsOf]
    have e2 : (refsOf ps).toArray[j] = Value.ref ps[j].1 := by simp [refsOf]
    rw [e1, e2]
    obtain ⟨r, r1, r2⟩ := hat j qs[j] ps[j] (List.getElem?_eq_getElem j1) (List.getElem?_eq_getElem j2)
    obtain ⟨hl2, hs⟩ := row_same r1 r2
    have q1 := m1 (qs[j].1, listOf qs[j].2.toArray 0) (List.mem_map.mpr ⟨qs[j], List.getElem_mem _, rfl⟩)
    have q2 := m2 (ps[j].1, listOf ps[j].2.toArray 0) (List.mem_map.mpr ⟨ps[j], List.getElem_mem _, rfl⟩)
    by_cases hne : qs[j].1 = ps[j].1
    · rw [hne]
      exact EqAt.same _
    · refine EqAt.of_refs hne ?_
      have := RcAt.lists (A := A.in1) (s := s) (e := fun _ => true) ⟨_, q1, rfl, _, rfl⟩ ⟨_, q2, rfl, _, rfl⟩ (by simp [hl2]) (by show A.units + 1 < cLine; exact hu) fun i i1 i2 => ?_
      · have e : ((List.range qs[j].2.toArray.size).all fun _ => true) = true := by simp
        rw [e] at this
        exact this
      · simp only [List.size_toArray] at i1 i2
        exact hs i _ _ (by simp [i1]) (by simp [i2]) _ _
  · have e : ((List.range (refsOf qs).toArray.size).all fun _ => true) = true := by simp
    rw [e]
    exact h
end
end

noncomputable section
open PySem PySem.W PyProof.Rows PySem.Calls PySem.Spec PyProof.Rows.LCg
set_option maxRecDepth 100000
section
variable {prog : Program} {w : World} {A : Around} {E : Value → Shared → Prop} {s : Shared} {h₀ : Heap} {L : Addr} {m : Str → Option Value} {env : Env}
/-- the source of a comprehension whose element is a text made of an int by a call -/
def IntSrc (prog : Program) (w : World) (A : Around) (h₀ : Heap) (L : Addr) (m : Str → Option Value) (env : Env) (elt : Expr) (x : Str) (scope : Scope) (cl : List (Str × Addr)) (f : Int → Str) (Fin : List Int → List (Addr × Obj) → Shared → Prop) (xv : Value) (s₁ : Shared) : Prop :=
  ∃ ax vs n ns news, xv = .ref ax ∧ A.handled = none ∧ Fr h₀ L s₁.heap m ∧ News h₀ L s₁.heap news ∧ (ax, listOf vs.toArray n) ∈ news ∧ vs.length ≤ 1000 ∧ IntsAre vs ns ∧
    (∀ i t I oI C oC D ys m₂ (h : Heap) (tk : Nat) (E' : Value → Shared → Prop), NsObj oC m₂ → m₂ x = some (Value.int i t) → Fr h₀ L h m → News h₀ L h ((I, oI) :: (C, oC) :: (D, lst ys) :: news) →
      wpAny (model prog w) A (eval elt (compEnvC scope cl C env)) (fun y s₄ => (∃ t', y = Value.str (f i) t') ∧ LedKept h₀ L m ((I, oI) :: (C, oC) :: (D, lst ys) :: news) s₁ s₄) E' { s₁ with heap := h, toks := tk }) ∧ Fin ns news s₁
theorem ints_at {vs : List Value} {ns : List Int} (h : IntsAre vs ns) : ∀ (i : Nat) (v : Value), vs[i]? = some v → ∃ n t, ns[i]? = some n ∧ v = Value.int n t := by
  induction h with
  | nil => intro i v e; simp at e
  | cons n t _ ih =>
    intro i v e
    cases i with
    | zero => simp at e; exact ⟨n, t, rfl, e.symm⟩
    | succ i => exact ih i v (by simpa using e)
theorem ints_len {vs : List Value} {ns : List Int} (h : IntsAre vs ns) : vs.length = ns.length := by
  induction h with
  | nil => rfl
  | cons n t _ ih => simp [ih]
theorem comp_ints {elt iter : Expr} {x y : Str} {px py : Pos} {scope : Scope} {cl : List (Str × Addr)} {pos spos : Pos} {Q : Flow → Shared → Prop} (f : Int → Str) (F₀ : Fr h₀ L s.heap m) (hLe : env.locals = L)
    (hsw : swapsWith (.ListComp elt [⟨.Name x px, iter, [], 0⟩] scope pos) (some (.Name y py)) spos.line env = pure true)
    (hclos : closureFor scope env = pure cl) (hcell : ∀ z ∈ scope.names, z.2 ≠ .cell) (hkind : scope.kind = .function)
    (hnames : ∀ z ∈ scope.names, z.2 = .local → scope.names.lookup z.1 = some .local) (hx : scope.names.lookup x = some .local)
    (hy : env.kindOf y = some .local) (hp : (env.scope.kind == .class || (env.scope.kind == .module && env.locals != env.globals)) = false)
    (h : wpAny (model prog w) A (eval iter env) (IntSrc prog w A h₀ L m env elt x scope cl f (fun ns news s₁ => ∀ D k c h tk, Fr h₀ L h (fun z => if z = y then some (.ref D) else m z) → News h₀ L h ((D, listOf (strValues c).toArray k) :: news) → Off1 D news → c.map (·.1) = ns.map f → Q .next { s₁ with heap := h, toks := tk })) E s)
    (hs : ∀ x, foldedSetIterable iter env x = pure x := by intro _; rfl) :
    wpAny (model prog w) A (exec (.Assign [.Name y py] (.ListComp elt [⟨.Name x px, iter, [], 0⟩] scope pos) spos) env) Q E s := by
  refine Assign_ListComp_U F₀ hLe hsw hclos hcell hkind hnames hx hy hp (wpAny_mono h (fun xv s₁ h₁ => ?_) fun _ _ e => e) hs
  obtain ⟨ax, vs, n, ns, news, rfl, hh, F, N, hm, hsz, hi, elts, fin⟩ := h₁
  refine CompSrc.ledger hh F N hm (by rw [List.size_toArray, sizeLine_eq]; omega) fun g => ?_
  rw [List.size_toArray]
  have hlen := ints_len hi
  have key : ∀ (q i : Nat) (c : List (Str × Tok)), vs.length - i = q → i ≤ vs.length → c.map (·.1) = (ns.take i).map f →
      CompRest prog w A h₀ L m env elt x scope cl { s₁ with heap := g } (SrcAt h₀ ax vs.toArray) (fun i v => vs.toArray[i]? = some v) (FinA h₀ L m { s₁ with heap := g } y Q) q i (strValues c) news := by
    intro q
    induction q with
    | zero =>
      intro i c hq hi' hc
      have e : i = vs.length := by omega
      subst e
      rw [hlen, List.take_length] at hc
      exact CompRest.zero fun D h tk F' N' o1 => fin D _ c h tk F' N' o1 hc
    | succ q ih =>
      intro i c hq hi' hc
      have hlt : i < vs.length := by omega
      refine CompRest.succ fun v I oI C oC D m₂ h tk E' hv hC hx' F' N' off ne => ?_
      obtain ⟨n, t, hn, rfl⟩ := ints_at hi i v (by simpa using hv)
      refine wpAny_mono (elts n t I oI C oC D (strValues c) m₂ h tk E' hC hx' F' N') (fun y s₄ h₄ => ?_) fun _ _ e => e
      obtain ⟨⟨t', rfl⟩, h', tk', rfl, F₂, N₂⟩ := h₄
      refine ⟨h', tk', news, rfl, F₂, N₂, off, .inr ⟨_, hm, rfl, _, rfl⟩, ?_⟩
      have e2 : strValues c ++ [Value.str (f n) t'] = strValues (c ++ [(f n, t')]) := by simp [strValues]
      show CompRest _ _ _ _ _ _ _ _ _ _ _ _ _ _ _ _ _ (strValues c ++ [Value.str (f n) t']) _
      rw [e2]
      refine ih (i + 1) _ (by omega) hlt ?_
      rw [List.take_add_one, hn, List.map_append, List.map_append, hc]
      rfl
  exact key vs.length 0 [] rfl (Nat.zero_le _) rfl
end
end

noncomputable section
open PySem PySem.W PyProof.Rows PySem.Calls PySem.SeqAt
set_option maxRecDepth 100000
set_option maxHeartbeats 4000000
/-- a statement's end: it falls through, and what holds there -/
structure AtNext (P : Shared → Prop) (f : Flow) (s : Shared) : Prop where
  next : f = .next
  out : P s
theorem news_sub {h₀ h : Heap} {L : Addr} {l news : List (Addr × Obj)} (N : News h₀ L h news) (hs : ∀ p ∈ l, p ∈ news) : News h₀ L h l := fun p hp => N p (hs p hp)
section
variable {prog : Program} {w : World} {A : Around} {E : Value → Shared → Prop} {s₀ s : Shared} {env : Env} {h₀ h : Heap} {L : Addr} {m : Str → Option Value} {st : Stmt} {rest : List Stmt} {Q : Flow → Shared → Prop}
theorem cut_names (_F : Fr h₀ L h m)
    (h1 : wpAny (model prog w) A (exec st env) (AtNext fun s' => ∃ (k : Int) (a : Addr) (c : List (Str × Tok)) (n : Nat) (h' : Heap) (tk' : Nat), s' = { s₀ with heap := h', toks := tk' } ∧ Fr h₀ L h' (fun y => if y = Str.ofString "names" then some (.ref a) else m y) ∧ News h₀ L h' [(a, listOf (strValues c).toArray n)] ∧ c.map (·.1) = namesF k) E s)
    (h2 : ∀ (k : Int) (a : Addr) (c : List (Str × Tok)) (n : Nat) (h' : Heap) (tk' : Nat), Fr h₀ L h' (fun y => if y = Str.ofString "names" then some (.ref a) else m y) → News h₀ L h' [(a, listOf (strValues c).toArray n)] → c.map (·.1) = namesF k → wpAny (model prog w) A (execs rest env) Q E { s₀ with heap := h', toks := tk' }) :
    wpAny (model prog w) A (execs (st :: rest) env) Q E s :=
  cut_cons (fun s' => ∃ (k : Int) (a : Addr) (c : List (Str × Tok)) (n : Nat) (h' : Heap) (tk' : Nat), s' = { s₀ with heap := h', toks := tk' } ∧ Fr h₀ L h' (fun y => if y = Str.ofString "names" then some (.ref a) else m y) ∧ News h₀ L h' [(a, listOf (strValues c).toArray n)] ∧ c.map (·.1) = namesF k) (wpAny_mono h1 (fun _ _ x => ⟨x.next, x.out⟩) fun _ _ e => e)
    fun _ ⟨k, a, c, n, h', tk', e, F, N, hc⟩ => e ▸ h2 k a c n h' tk' F N hc
theorem cut_steps {a : Addr} {o : Obj} (_F : Fr h₀ L h m) (_N : News h₀ L h [(a, o)])
    (h1 : wpAny (model prog w) A (exec st env) (AtNext fun s' => ∃ (D : Addr) (c : List (Str × Tok)) (n : Nat) (ns : List Int) (h' : Heap) (tk' : Nat), s' = { s₀ with heap := h', toks := tk' } ∧ Fr h₀ L h' (fun y => if y = Str.ofString "steps" then some (.ref D) else m y) ∧ News h₀ L h' [(D, listOf (strValues c).toArray n), (a, o)] ∧ c.map (·.1) = ns.map stepF ∧ ns.length ≤ 11) E s)
    (h2 : ∀ (D : Addr) (c : List (Str × Tok)) (n : Nat) (ns : List Int) (h' : Heap) (tk' : Nat), Fr h₀ L h' (fun y => if y = Str.ofString "steps" then some (.ref D) else m y) → News h₀ L h' [(D, listOf (strValues c).toArray n), (a, o)] → c.map (·.1) = ns.map stepF → ns.length ≤ 11 → wpAny (model prog w) A (execs rest env) Q E { s₀ with heap := h', toks := tk' }) :
    wpAny (model prog w) A (execs (st :: rest) env) Q E s :=
  cut_cons (fun s' => ∃ (D : Addr) (c : List (Str × Tok)) (n : Nat) (ns : List Int) (h' : Heap) (tk' : Nat), s' = { s₀ with heap := h', toks := tk' } ∧ Fr h₀ L h' (fun y => if y = Str.ofString "steps" then some (.ref D) else m y) ∧ News h₀ L h' [(D, listOf (strValues c).toArray n), (a, o)] ∧ c.map (·.1) = ns.map stepF ∧ ns.length ≤ 11) (wpAny_mono h1 (fun _ _ x => ⟨x.next, x.out⟩) fun _ _ e => e)
    fun _ ⟨D, c, n, ns, h', tk', e, F, N, hc, hn⟩ => e ▸ h2 D c n ns h' tk' F N hc hn
theorem names_at {news : List (Addr × Obj)} {k : Int} {a : Addr} {c : List (Str × Tok)} {n tk' : Nat} (F : Fr h₀ L h (fun y => if y = Str.ofString "names" then some (.ref a) else m y)) (N : News h₀ L h news) (hm : (a, listOf (strValues c).toArray n) ∈ news) (hc : c.map (·.1) = namesF k) :
    AtNext (fun s' => ∃ (k : Int) (a : Addr) (c : List (Str × Tok)) (n : Nat) (h' : Heap) (tk' : Nat), s' = { s₀ with heap := h', toks := tk' } ∧ Fr h₀ L h' (fun y => if y = Str.ofString "names" then some (.ref a) else m y) ∧ News h₀ L h' [(a, listOf (strValues c).toArray n)] ∧ c.map (·.1) = namesF k) .next { s₀ with heap := h, toks := tk' } :=
  ⟨rfl, k, a, c, n, h, tk', rfl, F, news_sub N fun p hp => List.mem_singleton.mp hp ▸ hm, hc⟩
theorem steps_at {news : List (Addr × Obj)} {a D : Addr} {o : Obj} {c : List (Str × Tok)} {n tk' : Nat} {ns : List Int} (F : Fr h₀ L h (fun y => if y = Str.ofString "steps" then some (.ref D) else m y)) (N : News h₀ L h news) (hm : (D, listOf (strValues c).toArray n) ∈ news) (hm2 : (a, o) ∈ news) (hc : c.map (·.1) = ns.map stepF) (hn : ns.length ≤ 11) :
    AtNext (fun s' => ∃ (D : Addr) (c : List (Str × Tok)) (n : Nat) (ns : List Int) (h' : Heap) (tk' : Nat), s' = { s₀ with heap := h', toks := tk' } ∧ Fr h₀ L h' (fun y => if y = Str.ofString "steps" then some (.ref D) else m y) ∧ News h₀ L h' [(D, listOf (strValues c).toArray n), (a, o)] ∧ c.map (·.1) = ns.map stepF ∧ ns.length ≤ 11) .next { s₀ with heap := h, toks := tk' } :=
  ⟨rfl, D, c, n, ns, h, tk', rfl, F, news_sub N fun p hp => (List.mem_cons.mp hp).elim (fun e => e ▸ hm) fun hp => List.mem_singleton.mp hp ▸ hm2, hc, hn⟩
end
local macro_rules | `(tactic| k_qdec) => `(tactic| decide +kernel)
local macro_rules | `(tactic| walk_at "call ref") => `(tactic| refine hold_here ?_)
local macro_rules | `(tactic| walk_at "call ref") => `(tactic| (k_here; k_dflt (refine' ctr_use (law_folder_c _ _ _) ?k1 ?k2 ?k3 ?k4 ?k5 ?kK ?kd ?ku ?kp ?_; (case k1 => k_asm); (case k2 => k_asm); (case k3 => k_asm); (case k4 => k_asm); (case k5 => k_asm); (case kK => first | exact rfl | assumption); (case kd => ktr_room); (case ku => ktr_units); (case kp => trivial); intro v9 h' tk9 F9 N9 st9 e9; obtain ⟨a9, c9, n9, e9, hn9, ha9, hc9⟩ := e9; subst e9; have N' := news_more (by k_asm) (by k_asm) st9 hn9 ha9; (try clear st9); (try dsimp only); (try k_sweep))))
local macro_rules | `(tactic| walk_at "call ref") => `(tactic| (k_here; k_dflt (refine' ctr_use (law_step_c _ _ _) ?k1 ?k2 ?k3 ?k4 ?k5 ?kK ?kd ?ku ?kp ?_; (case k1 => k_asm); (case k2 => k_asm); (case k3 => k_asm); (case k4 => k_asm); (case k5 => k_asm); (case kK => first | exact rfl | assumption); (case kd => ktr_room); (case ku => ktr_units); (case kp => trivial); intro v9 h' tk9 F' N' st9 e9; obtain ⟨t9, e9⟩ := e9; subst e9; (try clear st9); (try dsimp only); (try k_sweep))))
local macro_rules | `(tactic| walk_at "AtNext") => `(tactic| refine hold_here ?_)
local macro_rules | `(tactic| walk_at "And") => `(tactic| ((with_reducible show (∃ _, _) ∧ LedKept _ _ _ _ _ _); k_dflt (refine ⟨⟨_, rfl⟩, led_kept (by k_asm) (by k_asm) ?_⟩; intro p hp; repeat (first | exact hp | refine List.Mem.tail _ ?_))))
local macro_rules | `(tactic| walk_at "call builtin:str.join") => `(tactic| (k_here; k_dflt (refine' l_join ?N ?m ?x ?z ?b ?_; (case N => k_asm); (case m => k_mem); (case x => decide +kernel); (case z => with_reducible assumption); (case b => with_reducible assumption); k_whole); intro t9 k9 hj9))
local macro_rules | `(tactic| walk_at "compareOp Eq ref ref") => `(tactic| refine hold_here ?_)
local macro_rules | `(tactic| walk_at "IntSrc") => `(tactic| refine hold_here ?_)
local macro_rules | `(tactic| walk_at "exec Assign cons ListComp") => `(tactic| (k_here; k_dflt (refine comp_ints stepF (F₀ := by k_asm) (by rfl) (by with_unfolding_all rfl) (by rfl) (by decide) (by rfl) (by decide) (by rfl) (by rfl) (by rfl) ?_)))
example : (fun (_ : OpenLaw) (_ : Params → Frag) => True) PySem.Challenge.rw_pd0106_01 hd.heap_39 := by
  w_top off
  k_with_none
  k_fill
  trivial
theorem law_holds : PySem.Challenge.rw_pd0106_01.Holds := hd (by
  k_go0
  (all_goals try k_fold)
  rename Shared => s1
  rename Fr _ _ _ _ => F1
  refine cut_names (s₀ := s1) F1 ?_ ?_
  · k_steps
    · refine Hold.mk ?_
      rename List.map _ _ = namesF _ => hc
      exact names_at (by k_asm) (by k_asm) (by k_mem) hc
    · rename decide (_ = ([] : List Int)) = false => ha
      rename _ ∨ _ => hor
      exact absurd (List.eq_nil_of_length_eq_zero (by omega)) (of_decide_eq_false ha)
    · refine Hold.mk ?_
      rename List.map _ _ = namesF _ => hc
      exact names_at (by k_asm) (by k_asm) (by k_mem) hc
  · intro k a c n h' tk' F2 N2 hc
    refine cut_steps (s₀ := s1) F2 N2 ?_ ?_
    · k_steps
      · refine Hold.mk ?_
        rename IntsAre _ (List.take _ _) => hi
        rename List.length _ = min _ _ => hl
        refine ⟨_, _, _, _, _, rfl, rfl, by k_asm, by k_asm, by k_mem, ?_, hi, ?_, ?_⟩
        · rw [ints_len hi, hl]; omega
        · intro i9 t9 I9 oI9 C9 oC9 D9 ys9 m9 h9 tk9 E9 hC9 hx9 F9 N9
          k_steps
        · intro D k c2 h9 tk9 F9 N9 o9 hc9
          exact steps_at F9 N9 (.head _) (.tail _ (by k_mem)) hc9 (by rw [hl]; omega)
      · refine Hold.mk ?_
        refine ⟨_, _, _, [0, 1, 2, 2, 7], _, rfl, rfl, by k_asm, by k_asm, by k_mem, Nat.le_of_ble_eq_true rfl, .cons _ _ (.cons _ _ (.cons _ _ (.cons _ _ (.cons _ _ .nil)))), ?_, ?_⟩
        · intro i9 t9 I9 oI9 C9 oC9 D9 ys9 m9 h9 tk9 E9 hC9 hx9 F9 N9
          k_steps
        · intro D k c2 h9 tk9 F9 N9 o9 hc9
          exact steps_at F9 N9 (.head _) (.tail _ (by k_mem)) hc9 (Nat.le_of_ble_eq_true rfl)
    · intro D c2 n2 ns h2 tk2 F3 N3 hc2 hn2
      have LF : Pl.LawF (c.map (·.1)) (c2.map (·.1)) := by rw [hc, hc2]; exact Pl.law_facts k ns hn2
      have lg := LF.gf
      have l1 : c.length ≤ 8 := by have := LF.nl; rwa [List.length_map] at this
      have l1' : c.length ≤ 2000 := by omega
      have l2 : ∀ p ∈ c, p.1.length ≤ 1000 := fun p hp => LF.nb _ (List.mem_map_of_mem hp)
      have l3 : c2.length ≤ 64 := by have := LF.sl; rwa [List.length_map] at this
      have l4 : ∀ p ∈ c2, p.1.length ≤ 10 := fun p hp => LF.sb _ (List.mem_map_of_mem hp)
      have l5 : ∀ p ∈ c2, p.1.length ≤ 1000 := fun p hp => Nat.le_trans (l4 p hp) (by decide)
      have l6 : ∀ i, i ≤ c2.length → GoodT (trailAt (c2.map (·.1)) i) := fun i hi => LF.gt i (by rwa [List.length_map])
      have l7 : ∀ i, i ≤ c2.length → GoodD (dAt (c.map (·.1)) (c2.map (·.1)) i) := fun i hi => LF.gd i (by rwa [List.length_map])
      have l8 := LF.row
      rw [List.length_map] at l8
      clear LF hc hc2 hn2
      k_steps
      refine Hold.mk ?_
      refine ctr_use (law_told_c _ _ _ D c2 n2 lg l5 l3 l6) (by k_asm) (by k_asm) (by k_asm) (by k_asm) (by k_asm) (by first | exact rfl | assumption) (by ktr_room) (by ktr_units) (N3 _ (.head _)).1 ?_
      rintro v9 h9 tk9 F9 N9 st9 ⟨R1, qs1, m1, rfl, hR1, hq1, hv1⟩
      dsimp only
      k_steps
      refine Hold.mk ?_
      refine ctr_use (law_due_c _ a D c c2 n n2 l1 l2 l4 l3 l7) (by k_asm) (by k_asm) (by k_asm) (by k_asm) (by k_asm) (by first | exact rfl | assumption) (by ktr_room) (by ktr_units) ⟨(N9 _ (.tail _ (.head _))).1, (N9 _ (.head _)).1⟩ ?_
      rintro v10 h10 tk10 F10 N10 st10 ⟨R2, qs2, m2, rfl, hR2, hq2, hv2⟩
      dsimp only
      k_steps
      refine Hold.mk ?_
      refine eq_rows l8 hv1 hv2 (st10 _ _ hR1) hR2 (fun p hp => st10 _ _ (hq1 p hp)) hq2 (by ktr_units) ?_
      k_steps)
end

end
end Mine

set_option maxRecDepth 100000 in
set_option maxHeartbeats 8000000 in
theorem PySem.Challenge.cw_pd0106_01_holds : PySem.Challenge.rw_pd0106_01.Holds :=
  Mine.law_holds
