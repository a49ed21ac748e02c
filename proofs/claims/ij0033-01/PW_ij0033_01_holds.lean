import PyProof.Rows.All
import Wide.All
import OpenK.AllK
import Wide.FinOn
import PySem.Challenge.RW_ij0033_01
set_option Elab.async false
set_option linter.unusedVariables false
set_option linter.unusedSimpArgs false
set_option linter.deprecated false
set_option rowWalk.seconds 0
set_option compiler.extract_closed false
namespace Mine
section
open PySem PySem.W PyProof.Rows
section
local macro_rules | `(tactic| o_head $_) => `(tactic| assumption)
theorem hd0 (h : PySem.Challenge.rw_ij0033_01.row.Holds) : PySem.Challenge.rw_ij0033_01.row.Holds := by k_head
end
noncomputable def pick (l : List Nat) : List Stmt := l.filterMap fun i => PySem.Challenge.pw_ij0033_01.main.body[i]?
noncomputable def view : Program := { PySem.Challenge.pw_ij0033_01 with main := { PySem.Challenge.pw_ij0033_01.main with body := pick [0, 2, 4, 7, 8, 10, 11, 12, 14, 15, 17, 18, 19, 20, 21, 22] } }
noncomputable def loose : List PySem.Str := ["escape_saxutils", "unescape", "_twin_re_1", "_special_chars_map", "escape_re"]
noncomputable def asK : List Addr := [2, 3, 6, 11, 12, 32, 34, 35, 37, 38, 39, 40, 41, 43, 44, 46, 47, 48, 49, 50, 52, 53, 55, 56, 60, 61, 62, 64, 65, 67, 68, 70, 74, 76, 77, 79, 80, 81, 83, 84, 86, 87, 88, 90, 91, 93, 94, 95, 98, 99, 100, 103, 104, 105, 108, 109, 110, 112, 113, 115, 116, 117, 120, 121, 122, 125, 126]
theorem asK_ok : ∀ P, asK = (hd0.heap_1 P).map (·.1) := fun _ => by kernel_rfl
noncomputable abbrev hookK : Hook := kmHook hd0.heap_1 asK asK_ok [82]
noncomputable abbrev Xt : Shared → Bool := fun s => xlAt Mine.view [] s && recOk (RowW.records PySem.Challenge.rw_ij0033_01.row.toRowW) s
noncomputable abbrev wf (w : World) (b c : Bool) : World := (w.withFollow "comprehension-iter-twice" b).withFollow "special-get-raises" c
noncomputable abbrev From (w : World) (s : Shared) :=
  (topFrom treeTable PySem.Challenge.rw_ij0033_01.row.toRowW.prog w 3712 s).map (fun s => (openSeen Mine.view Mine.loose (importedModules PySem.Challenge.rw_ij0033_01.row.toRowW.prog.main.body) Xt true s, hookK.obs s))
noncomputable abbrev Good' (w : World) := (openGood Mine.view Mine.loose, hookK.val w)
theorem bm {α β γ} (o : Option α) (f : α → Option β) (g : β → γ) : (o.bind f).map g = o.bind (fun a => (f a).map g) := by cases o <;> rfl
noncomputable abbrev One (b c : Bool) := ∀ w, (fencedOpening treeTable PySem.Challenge.rw_ij0033_01.row.toRowW.prog w 3712).bind (From (wf w b c)) = some (Good' (wf w b c))
theorem h00 : One false false := by intro w; kernel_rfl
theorem h01 : One false true := by intro w; kernel_rfl
theorem h10 : One true false := by intro w; kernel_rfl
theorem h11 : One true true := by intro w; kernel_rfl
set_option maxHeartbeats 4000000 in
set_option maxRecDepth 100000 in
theorem left_k : LeftO PySem.Challenge.rw_ij0033_01.row.toRowW.prog Mine.view Mine.loose Xt hookK.obs hookK.val 3712 := by
  intro w
  obtain ⟨b, c, k⟩ : ∃ b c, wf w b c = w := ⟨w.params.followText "comprehension-iter-twice", w.params.followText "special-get-raises", by
    unfold wf; rw [World.withFollow_self w "comprehension-iter-twice", World.withFollow_self w "special-get-raises"]⟩
  have e : (fencedOpening treeTable PySem.Challenge.rw_ij0033_01.row.toRowW.prog w 3712).bind (From (wf w b c)) = some (Good' (wf w b c)) := by
    cases b <;> cases c
    · exact h00 w
    · exact h01 w
    · exact h10 w
    · exact h11 w
  rw [k] at e
  unfold openEnds
  rw [bm]
  exact e
local macro_rules | `(tactic| k_head) => `(tactic|
  refine holds_open (q := Mine.view) (loose := Mine.loose) (Xt := Xt) (XP := XL Mine.view []) (Yf := Hook.obs hookK) (Ya := Hook.val hookK) (YP := Hook.says (kmHook hd0.heap_1 asK asK_ok [82])) (N := 3712)
      left_k (Hook.of hookK) (Hook.keeps hookK) (fun s e => xl_of s (Bool.and_eq_true_iff.mp e).1) XL.keeps (by rfl) (by rfl) (by rfl)
      (fun s e => recFacts_of (Bool.and_eq_true_iff.mp e).2) (by rfl) (by first | assumption | decide +kernel) (by decide +kernel)
      ⟨rfl, rfl, rfl, rfl, rfl, by decide +kernel⟩ ?hw ?hc)
theorem said_k : OpenLaw.wellSaid PySem.Challenge.rw_ij0033_01 = true := by kernel_rfl
local macro_rules | `(tactic| o_law) => `(tactic| refine holds_law said_k fun said => ?_)
set_option maxRecDepth 100000 in
set_option maxHeartbeats 8000000 in
open_top hd for PySem.Challenge.rw_ij0033_01
theorem top_off : True := by
  w_top off
  trivial
end
section
open PySem PySem.W PyProof.Rows PySem.Calls
noncomputable abbrev pw := PySem.Challenge.pw_ij0033_01
theorem fillit : PySem.Challenge.rw_ij0033_01 = PySem.Challenge.rw_ij0033_01 ∧ hd0.heap_1 = hd0.heap_1 := by
  k_fill
  exact ⟨rfl, rfl⟩
end
section
open PySem PySem.W PyProof.Rows PySem.Calls PySem.W.X
theorem fillit2 : PySem.Challenge.rw_ij0033_01 = PySem.Challenge.rw_ij0033_01 ∧ hd0.heap_1 = hd0.heap_1 := by
  k_fill
  exact ⟨rfl, rfl⟩
local macro_rules | `(tactic| x_close) => `(tactic| (apply_assumption <;> assumption))
noncomputable def AllNe (d : Nat) : List (Addr × Obj) → Prop
  | [] => True
  | p :: r => (@Ne Nat p.1 d) ∧ AllNe d r
theorem allNe_of {d : Addr} : ∀ {l : List (Addr × Obj)}, (∀ p ∈ l, p.1 ≠ d) → AllNe d l
  | [], _ => trivial
  | p :: _, h => ⟨h p (.head _), allNe_of fun q hq => h q (.tail _ hq)⟩
theorem allNe_of_ne {d : Addr} : ∀ {l : List (Addr × Obj)}, AllNe d l → ∀ p ∈ l, p.1 ≠ d
  | [], _ => fun _ hq => nomatch hq
  | _ :: _, h => List.forall_mem_cons.mpr ⟨h.1, allNe_of_ne h.2⟩
theorem allNe_of_lt {d : Addr} : ∀ {l : List (Addr × Obj)}, AllLt d l → ∀ p ∈ l, p.1 ≠ d
  | [], _ => fun _ hq => nomatch hq
  | _ :: _, h => List.forall_mem_cons.mpr ⟨Nat.ne_of_lt h.1, allNe_of_lt h.2⟩
/-- a list's bound append -/
noncomputable abbrev bndO (l : Addr) : Obj := { cls := .type "builtin_function_or_method", dict := none, data := .fields #[.builtin "list.append", .ref l], slots := #[] }

theorem xk {h₀ h h' : Heap} {L : Addr} {m : Str → Option Value} {news : List (Addr × Obj)} {a : Addr} {o : Obj} (F : Fr h₀ L h m) (N : News h₀ L h news) (D : Mem h h' [] [(a, o)]) :
    Fr h₀ L h' m ∧ News h₀ L h' ((a, o) :: news) ∧ ∀ q ∈ news, q.1 ≠ a := by
  have keep : ∀ b o, h.get? b = some o → h'.get? b = some o := fun b o e => D.keep b o e (by simp [away])
  obtain ⟨h1, h2⟩ := D.nw (a, o) (.head _)
  have F' := F.keeps keep
  refine ⟨F', fun p hp => ?_, fun q hq e => ?_⟩
  · rcases List.mem_cons.mp hp with rfl | hp
    · refine ⟨h1, fun e => ?_, ?_⟩
      · obtain ⟨oL, _, _, hL, _⟩ := F.ns
        rw [← e] at hL; simp only at h2; rw [h2] at hL; cases hL
      · cases q : h₀.get? a with
        | none => rfl
        | some o' => simp only at h2; rw [F.keep _ _ q] at h2; cases h2
    · exact N.grown keep p hp
  · rw [← e, (N q hq).1] at h2; cases h2
theorem xk0 {h₀ h h' : Heap} {L : Addr} {m : Str → Option Value} {news new : List (Addr × Obj)} (F : Fr h₀ L h m) (N : News h₀ L h news) (D : Mem h h' [] new) :
    Fr h₀ L h' m ∧ News h₀ L h' news := by
  have keep : ∀ b o, h.get? b = some o → h'.get? b = some o := fun b o e => D.keep b o e (by simp [away])
  exact ⟨F.keeps keep, N.grown keep⟩

set_option maxRecDepth 100000 in
set_option maxHeartbeats 8000000 in
theorem x_getappend (w : World) (A : Around) (s : Shared) (Q E : Value → Shared → Prop) (l : Addr) (its : Array Value) (n : Nat) (tk : Tok)
  (hl : s.heap.get? l = some { cls := .type "list", dict := none, data := .seq its n, slots := #[] })
  (hQ : ∀ a h' tk', Mem s.heap h' [] [(a, bndO l)] → Q (.ref a) ⟨h', s.gens, s.drawn, tk', s.os⟩) :
   wpAny (model pw w) A (call (.builtin "list.__getattribute__") [.ref l, .str (Str.ofString "append") tk]) Q E s := by
  x_run

section
variable {w : World} {A : Around} {E : Value → Shared → Prop} {s : Shared} {h₀ : Heap} {L : Addr} {m : Str → Option Value} {news : List (Addr × Obj)}

theorem getattr_append {l : Addr} {its : Array Value} {n : Nat} {Q : Value → Shared → Prop} (F : Fr h₀ L s.heap m) (N : News h₀ L s.heap news) (hm : (l, listOf its n) ∈ news)
    (h : ∀ b h' tk', Fr h₀ L h' m → News h₀ L h' ((b, bndO l) :: news) → (∀ q ∈ news, q.1 ≠ b) → Q (.ref b) { s with heap := h', toks := tk' }) :
    wpAny (model pw w) A (getAttr (.ref l) (Str.ofString "append") true) Q E s := by
  have hl := N.get hm
  unfold getAttr
  refine wpAny_bind (wpAny_mkText ?_)
  unfold getAttrBy
  refine wpAny_holding (wpAny_bind (wpAny_typeOf (T := "list") ⟨_, hl, rfl⟩ ?_))
  obtain ⟨⟨g, hg, hc⟩, hn⟩ := PySem.F.plainAttrs_list
  have hg' : typeLookup (.type "list") "__getattribute__" = pure (some (.builtin "list.__getattribute__")) := by rw [typeLookup_type, builtinLookup_eq_fast]; kernel_rfl
  refine wpAny_bind (wpAny_of_eq hg' ?_)
  simp only [onTheHeap, Bool.false_and, Bool.false_eq_true, if_false]
  unfold getAttrByItsOwn hookBefore
  simp only [onTheHeap, Bool.false_eq_true, if_false]
  refine wpAny_bind (wpAny_pure ?_)
  refine wpAny_bind (wpAny_attempt (wpAny_holding ?_))
  unfold callGetattribute
  simp only [onTheHeap, Bool.and_false, Bool.false_eq_true, if_false]
  unfold boundAndCalled
  have hb : bindSpecial (.builtin "list.__getattribute__") (.ref l) = pure (.builtin "list.__getattribute__", [.ref l]) := by rfl
  refine wpAny_bind (wpAny_of_eq hb ?_)
  refine x_getappend w A _ _ _ l its n _ hl fun a h' tk' D => ?_
  obtain ⟨F', N', hne⟩ := xk F N D
  exact wpAny_pure (h a h' _ F' N' hne)

noncomputable def BAt (u l : Addr) (h : Heap) : Prop := h.get? u = some (bndO l)
theorem bat_of {u l : Addr} {h : Heap} (N : News h₀ L h news) (hm : (u, bndO l) ∈ news) : BAt u l h := N.get hm
theorem callWith_bnd {pos : Pos} {u l : Addr} {first : List Value} {env : Env} {e : PySem.Expr} {Q : Value → Shared → Prop} (_N : News h₀ L s.heap news) (_hm : (u, bndO l) ∈ news)
    (h : wpAny (model pw w) A (spliced (backTo pos (starEach [e] env))) (fun vs s₁ => BAt u l s₁.heap ∧ wpAny (model pw w) A (call (.ref u) (first ++ vs)) Q E s₁) E s)
    (he : starEach [e] env = (false, eval e env) :: starEach [] env := by rfl) (hplain : (backTo pos (starEach [] env)).any (·.1) = false := by rfl) :
    wpAny (model pw w) A (callWith pos (.ref u) first (backTo pos (starEach [e] env)) []) Q E s := by
  rw [he] at h ⊢
  unfold callWith
  refine wpAny_bind (wpAny_holding (wpAny_mono (evalArgs_plain (Q := fun (a : Args) s₁ => BAt u l s₁.heap ∧ wpAny (model pw w) A (call (.ref u) (first ++ a.pos) a.kw) Q E s₁) h) (fun x s₁ h₁ => wpAny_bind (wpAny_standAt ?_)) fun _ _ x => x))
  obtain ⟨ho, hcall⟩ := h₁
  have hp : (backTo pos ((false, eval e env) :: starEach [] env)).any (·.1) = false := by show (false || (backTo pos (starEach [] env)).any (·.1)) = false; rw [hplain]; rfl
  simp only [hp, List.any_nil, Bool.or_false]
  refine wpAny_bind (m := keeperOf (.ref u)) ?_
  unfold keeperOf
  refine wpAny_bind (wpAny_load ho ?_)
  simp only [show (Value.type "builtin_function_or_method" != Value.type "method") = true by decide, show (Value.type "builtin_function_or_method" == Value.type "builtin_function_or_method" || Value.type "builtin_function_or_method" == Value.type "method-wrapper") = true by decide, if_true]
  refine wpAny_pure ?_
  exact wpAny_bind (wpAny_mono hcall (fun r s₂ hr => wpAny_bind (wpAny_holding (wpAny_point (wpAny_pure hr)))) fun _ _ x => x)

theorem check_append {l : Addr} {its : Array Value} {n : Nat} {v : Value} {Q : Unit → Shared → Prop} (ho : s.heap.get? l = some (listOf its n)) (h : Q () s) :
    wpAny (model pw w) A (checkBoundCall "list.append" ⟨[.ref l, v], []⟩) Q E s := by
  have hs : Manifest.signature? "list.append" = some ⟨.oneArg, "list.append", "append", .self, [⟨"object", .posOnly, true⟩]⟩ := by
    rw [signature?_of (id := "list.append") (n := ['d', 'n', 'e', 'p', 'p', 'a']) (o := ['t', 's', 'i', 'l']) (by kernel_rfl) F.owner_list]; kernel_rfl
  have hkind : builtinKind "list.append" = some .method := by decide +kernel
  have hsub : isSubtype (.type "list") (.type "module") = pure false := by rw [isSubtype_type]; kernel_rfl
  have hT : s.TypeIs (.ref l) "list" := ⟨_, ho, rfl⟩
  unfold checkBoundCall
  simp only [hs, hkind]
  refine wpAny_bind (wpAny_isInstance hT hsub ?_)
  have hv : (Manifest.varargsMethods.contains "list.append" || false) = false := by decide +kernel
  refine KFB.if_not hv ?_
  have hty : wpAny (model pw w) A (isType (.ref l)) (fun b s' => b = false ∧ s' = s) E s := by
    unfold isType loadHead
    exact wpAny_bind (wpAny_loadPart ho (wpAny_pure ⟨rfl, rfl⟩))
  refine wpAny_bind (wpAny_mono hty (fun b s' hb => ?_) fun _ _ e => e)
  obtain ⟨rfl, rfl⟩ := hb
  refine KFB.if_not rfl ?_
  refine wpAny_bind (wpAny_typeOf hT ?_)
  refine wpAny_of_eq (a := ()) ?_ h
  kernel_rfl

theorem call_bnd {l b : Addr} {its : Array Value} {n : Nat} {v : Value} {news' : List (Addr × Obj)} {Q : Value → Shared → Prop} (F : Fr h₀ L s.heap m) (N : News h₀ L s.heap news) (hb : (b, bndO l) ∈ news)
    (U : Upd l (listOf its n) (listOf (its.push v) (n + 1)) news news')
    (h : ∀ h', Fr h₀ L h' m → News h₀ L h' news' → Q .none { s with heap := h' }) (hsz : its.size ≤ sizeLine) : wpAny (model pw w) A (call (.ref b) [v]) Q E s := by
  have ho := N.get hb
  obtain ⟨pre, post, rfl, rfl, ha, hb'⟩ := U.split
  have z := N (l, listOf its n) (List.mem_append.mpr (.inr (.head _)))
  refine wpAny_call (codeAny_of_tree ?_)
  show wpAny _ A.in1 (callAny (.ref b) ⟨[v], []⟩) _ _ s
  simp only [callAny]
  refine wpAny_bind (wpAny_load ho ?_)
  simp only [show (Value.type "builtin_function_or_method" == Value.type "method" || Value.type "builtin_function_or_method" == Value.type "builtin_function_or_method" || Value.type "builtin_function_or_method" == Value.type "method-wrapper") = true by decide, if_true]
  refine KFB.if_so (by decide) ?_
  refine wpAny_bind (check_append z.1 ?_)
  refine wpAny_bind (wpAny_pure (wpAny_pure ?_))
  refine ⟨Code.quiet_builtin _ (by decide +kernel), codeAny_builtin entry_list_append ?_⟩
  show wpAny _ _ (updateSeq l (·.push v) >>= fun _ => ret .none) _ _ s
  refine wpAny_bind ?_
  refine wpAny_updateSeq z.1 rfl (wpAny_pure ?_)
  have hs : Heap.SameBut l s.heap (s.heap.update l fun o => o.mapSeq (·.push v)) := Heap.SameBut.update ..
  refine h _ (F.change hs z.2.1 z.2.2) (news_set N ha hb' hs ?_)
  rw [Heap.get?_update_self _ z.1 (by rw [mapSeq_push]; rfl), mapSeq_push]
end

/- loops -/
noncomputable def WEnd {σ : Type} (h₀ : Heap) (L : Addr) (s : Shared) (Led : σ → List (Addr × Obj)) (fm : σ → List (Str × Value)) (I : σ → Prop) (μ : σ → Nat) (c : σ) (s₂ : Shared) : Prop :=
  ∃ (c' : σ) (h' : Heap) (tk : Nat) (m' : Str → Option Value) (news' : List (Addr × Obj)), s₂ = { s with heap := h', toks := tk } ∧ Fr h₀ L h' m' ∧ News h₀ L h' news' ∧ (∀ p ∈ Led c', p ∈ news') ∧ (∀ p ∈ fm c', m' p.1 = some p.2) ∧ I c' ∧ μ c' < μ c
noncomputable def WPost {σ : Type} (h₀ : Heap) (L : Addr) (s : Shared) (Led : σ → List (Addr × Obj)) (fm : σ → List (Str × Value)) (I : σ → Prop) (μ : σ → Nat) (Q : Flow → Shared → Prop) (c : σ) (f : Flow) (s₂ : Shared) : Prop :=
  match f with
  | .ret v => Q (.ret v) s₂
  | .brk => Q .next s₂
  | _ => WEnd h₀ L s Led fm I μ c s₂
theorem my_wend {σ : Type} {h₀ : Heap} {L : Addr} {s : Shared} {Led : σ → List (Addr × Obj)} {fm : σ → List (Str × Value)} {I : σ → Prop} {μ : σ → Nat} {Q : Flow → Shared → Prop} {c : σ} {h' : Heap} {tk : Nat} {m' : Str → Option Value} {news' : List (Addr × Obj)} (c' : σ)
    (F' : Fr h₀ L h' m') (N' : News h₀ L h' news') (led : ∀ p ∈ Led c', p ∈ news') (hfm : ∀ p ∈ fm c', m' p.1 = some p.2) (hI : I c') (hμ : μ c' < μ c) :
    WPost h₀ L s Led fm I μ Q c .next { s with heap := h', toks := tk } := ⟨c', h', tk, m', news', rfl, F', N', led, hfm, hI, hμ⟩
theorem kstB_same {u : Str → Option Value} {ps : List (Str × Value)} (h : ∀ p ∈ ps, u p.1 = some p.2) : kstB u ps = u := funext fun _ => kstB_eq h fun _ => rfl

theorem my_while {σ : Type} {prog : Program} {w : World} {A : Around} {E : Value → Shared → Prop} {Q : Flow → Shared → Prop} {s : Shared} {env : Env} {h₀ : Heap} {L : Addr} {test : PySem.Expr} {body : List Stmt} {pos : Pos} {m₀ : Str → Option Value}
    (Led : σ → List (Addr × Obj)) (fm : σ → List (Str × Value)) (I : σ → Prop) (μ : σ → Nat) (c₀ : σ)
    (F : Fr h₀ L s.heap m₀) (N : News h₀ L s.heap (Led c₀)) (hk : ∀ p ∈ fm c₀, m₀ p.1 = some p.2) (hp : I c₀)
    (turn : ∀ (c : σ) (u : Str → Option Value) h tk, I c → Fr h₀ L h (kstB u (fm c)) → News h₀ L h (Led c) →
      wpAny (model prog w) A (isTrue test env (eval test env)) (fun b s₂ =>
        if b = true then wpAny (model prog w) A (execs body env) (WPost h₀ L s Led fm I μ Q c) E s₂ else Q .next s₂) E { s with heap := h, toks := tk })
    (hE : PassesOwn (model prog w) A env E := by passes_own) :
    wpAny (model prog w) A (exec (.While test body [] pos) env) Q E s := by
  refine While_inv2 (fun n m nx => ∃ c : σ, nx = Led c ∧ μ c = n ∧ (∀ p ∈ fm c, m p.1 = some p.2) ∧ I c) F N ⟨c₀, rfl, rfl, hk, hp⟩ ?_ hE
  rintro n m₁ nx h tk F₁ N₁ ⟨c, hnx, hsz, h1, hp'⟩
  rw [hnx] at N₁
  rw [← hsz]
  refine wpAny_mono (turn c m₁ h tk hp' (by rw [kstB_same h1]; exact F₁) N₁) (fun b s₂ p => ?_) fun _ _ x => x
  cases b with
  | false => simpa using p
  | true =>
    simp only [if_true] at p ⊢
    refine wpAny_mono p (fun f s₃ q => ?_) fun _ _ x => x
    cases f with
    | ret v => exact q
    | brk => exact q
    | next =>
      obtain ⟨c', h', tk', m', news', rfl, F', N', hn, hk9, hp9, hm9⟩ := q
      exact ⟨h', tk', m', Led c', μ c', rfl, F', fun p hp => N' p (hn p hp), hm9, c', rfl, rfl, hk9, hp9⟩
    | cont =>
      obtain ⟨c', h', tk', m', news', rfl, F', N', hn, hk9, hp9, hm9⟩ := q
      exact ⟨h', tk', m', Led c', μ c', rfl, F', fun p hp => N' p (hn p hp), hm9, c', rfl, rfl, hk9, hp9⟩

theorem fr_binds {g h : Heap} {L : Addr} {binds binds' : List (Str × Value)} (F : Fr g L h (fun y => binds.reverse.lookup y)) (e : binds = binds') : Fr g L h (fun y => binds'.reverse.lookup y) := e ▸ F
theorem ite_b_false {b : Bool} {P R : Prop} (h : b = false) (q : R) : if b = true then P else R := by rw [if_neg (by rw [h]; exact Bool.false_ne_true)]; exact q
theorem ite_b_true {b : Bool} {P R : Prop} (h : b = true) (q : P) : if b = true then P else R := by rw [if_pos h]; exact q
theorem ent_mono {α : Type} {M : Model} {A : Around} {s : Shared} {t : Sem α} {Q : α → Shared → Prop} {E : Value → Shared → Prop} (h : wpAny M A t Q (fun _ _ => False) s) : wpAny M A t Q E s := wpAny_mono h (fun _ _ x => x) fun _ _ x => x.elim
end
section
open PySem PySem.W PyProof.Rows PySem.Calls PySem.W.X
theorem reset_0 : True := by
  w_top off
  trivial
local macro_rules | `(tactic| x_close) => `(tactic| (apply_assumption <;> first | assumption | rfl | decide))
local macro_rules | `(tactic| walk_at "MY ENTER") => `(tactic| (refine' code_def ?k1 ?k2 ?k3 ?k4 ?k5 ?kA ?kF ?kK ?k6 ?k7 ?k8 ?k9 ?kB ?_ ?c2 ?c3 ?c4 ?c5; (case kA => exact rfl); (case kF => exact rfl); (case kK => assumption); (case k1 => k_asm); (case k2 => k_asm); (case k3 => k_asm); (case k4 => k_asm); (case k5 => k_asm); (case k6 => k_is); (case k7 => k_is); (case k8 => ktr_room); (case k9 => first | exact BindsTo.of_eq rfl | exact binds_K (by k_in) rfl (by k_is) rfl rfl rfl); (case c5 => decide); (case kB => exact locs rfl); (case c2 => exact rfl); (case c3 => exact rfl); (case c4 => exact rfl); k_whole; intro g' L' h' FG' F' N' B' X' T'; (try dsimp only [List.reverse_cons, List.reverse_nil, List.nil_append, List.cons_append, List.append_nil, List.zip, List.zipWith, List.map] at F'); refine ent_mono ?_; (try k_fold)))
local macro_rules | `(tactic| k_lt $h:ident) => `(tactic| (replace $h := allLt_of $h; (try simp only [AllLt, and_true] at $h:ident); (repeat (obtain ⟨_, $h⟩ := $h))))
local macro_rules | `(tactic| k_all) => `(tactic| first | assumption | exact allNe_of_lt (by assumption) | exact allNe_of_ne (by assumption))
local macro_rules | `(tactic| walk_at "MY NE") => `(tactic| skip)
local macro_rules | `(tactic| walk_at "getAttr ref") => `(tactic| (k_here; (with_reducible show wpAny _ _ (getAttr (Value.ref _) (Str.ofString "append") true) _ _ _); k_dflt (refine' getattr_append ?k1 ?k2 ?k3 ?_; (case k1 => k_asm); (case k2 => k_asm); (case k3 => k_mem); k_whole; intro b' h' tk' F' N' l1; (replace l1 := allNe_of l1); (try simp only [AllNe, and_true] at l1); (repeat (obtain ⟨_, l1⟩ := l1)); (try k_sweep))))
local macro_rules | `(tactic| walk_at "callWith ref") => `(tactic| (k_here; (with_reducible show wpAny _ _ (callWith _ (Value.ref _) _ (backTo _ (starEach [_] _)) []) _ _ _); k_dflt (refine' callWith_bnd (l := _) ?k1 ?k2 ?_; (case k1 => k_asm); (case k2 => k_mem); k_whole)))
local macro_rules | `(tactic| walk_at "And") => `(tactic| ((with_reducible show BAt _ _ _ ∧ _); k_dflt (refine ⟨bat_of (by k_asm) (by k_mem), ?_⟩); (try dsimp only [List.nil_append, List.cons_append])))
local macro_rules | `(tactic| walk_at "call ref") => `(tactic| (k_here; (with_reducible show wpAny _ _ (call (Value.ref _) [_]) _ _ _); k_dflt (refine' call_bnd ?k1 ?k2 ?k3 ?k4 ?_ ?z; (case k1 => k_asm); (case k2 => k_asm); (case k3 => k_mem); (case k4 => k_upd); (case z => first | assumption | size_fits | omega | (simp only [List.size_toArray, List.length_nil]; decide)); k_whole; intro h' F' N'; (try k_sweep))))
local macro_rules | `(tactic| walk_at "ite") => `(tactic| first | (refine ite_b_false (by assumption) ?_) | (refine ite_b_true (by assumption) ?_))
local macro_rules | `(tactic| walk_at "ite") => `(tactic| first | (refine ite_b_true (by simp only [decide_eq_true_eq]; omega) ?_) | (refine ite_b_false (by simp only [decide_eq_false_iff_not]; omega) ?_))
local macro_rules | `(tactic| walk_at "MY FM") => `(tactic| first | exact List.forall_mem_nil _ | (refine List.forall_mem_cons.mpr ⟨?fmA, ?fmB⟩; (case fmA => with_unfolding_all rfl); (case fmB => walk_at "MY FM")))
local macro_rules | `(tactic| walk_at "ite") => `(tactic| (k_closed; k_dflt (first | (refine ite_b_true (by decide) ?_) | (refine ite_b_false (by decide) ?_))))
local macro_rules | `(tactic| walk_at "compareOp IsNot ref ref") => `(tactic| (k_here; refine wpAny_isNot_ref_self ?_))
local macro_rules | `(tactic| walk_at "compareOp IsNot str ref") => `(tactic| (k_here; refine wpAny_isNot_other (by rfl) (by intro x; cases x) ?_))
local macro_rules | `(tactic| walk_at "WhlIf") => `(tactic| k_dflt (first | (refine WhlIf.yes (by assumption) ?_) | (refine WhlIf.no (by assumption) ?_) | (refine WhlIf.yes (by decide) ?_) | (refine WhlIf.no (by decide) ?_) | (refine WhlIf.yes (by simp only [decide_eq_true_eq]; omega) ?_) | (refine WhlIf.no (by simp only [decide_eq_false_iff_not]; omega) ?_)))
local macro_rules | `(tactic| walk_at "ite") => `(tactic| (k_closed; k_dflt (first | (refine ite_b_true (by decide) ?_) | (refine ite_b_false (by decide) ?_) | (refine ite_b_true (by decide +kernel) ?_) | (refine ite_b_false (by decide +kernel) ?_))))
local macro_rules | `(tactic| walk_at "call builtin:list.append") => `(tactic| (k_here; (with_reducible show wpAny _ _ (call (Value.builtin _) [Value.ref _, _]) _ _ _); k_dflt (refine' append_K ?k1 ?k2 ?k3 ?_ ?z; (case k1 => k_asm); (case k2 => k_asm); (case k3 => k_upd); (case z => first | assumption | size_fits); k_whole); intro h' F' N'; (try k_sweep)))
local macro_rules | `(tactic| k_mem) => `(tactic| assumption)
local macro_rules | `(tactic| walk_at "ite") => `(tactic| first | (refine ite_b_true (by simp only [beq_iff_eq]; omega) ?_) | (refine ite_b_false (by simp only [beq_eq_false_iff_ne, ne_eq]; omega) ?_))
local macro_rules | `(tactic| walk_at "formatField str") => `(tactic| (k_here; k_dflt (refine' SB.field_str ?k1 ?z; (case z => assumption)); intro _ _))
namespace RP
theorem plainAttrs : PlainAttrs "re.Pattern" :=
  ⟨⟨"object.__getattribute__", by rw [typeLookup_type, builtinLookup_eq_fast]; kernel_rfl, by decide +kernel⟩, by rw [typeLookup_type, builtinLookup_eq_fast]; kernel_rfl⟩
theorem slot_sub : Slot "re.Pattern" (Str.ofString "sub") "re.Pattern.sub" :=
  .of (owner := "re.Pattern") (n := "sub") (by rw [typeLookup_type, builtinLookup_eq_fast]; kernel_rfl) (by decide +kernel) (by decide +kernel) (by decide +kernel)
    (by first | exact .inl (by decide +kernel) | exact .inr (by decide +kernel)) (by rw [isSubtype_type]; kernel_rfl)
theorem type_sub : typeOf (.builtin "re.Pattern.sub") = pure (.type "method_descriptor") := by show builtinType _ = _; rw [builtinType_eq_fast]; kernel_rfl
theorem slot_translate : Slot "str" (Str.ofString "translate") "str.translate" :=
  .of (owner := "str") (n := "translate") (by rw [typeLookup_type, builtinLookup_eq_fast]; kernel_rfl) (by decide +kernel) (by decide +kernel) (by decide +kernel)
    (by first | exact .inl (by decide +kernel) | exact .inr (by decide +kernel)) (by rw [isSubtype_type]; kernel_rfl)
theorem type_translate : typeOf (.builtin "str.translate") = pure (.type "method_descriptor") := by show builtinType _ = _; rw [builtinType_eq_fast]; kernel_rfl
theorem getm_translate {M : Model} {A : Around} {E : Value → Shared → Prop} {s : Shared} {x : Str} {t : Tok} {pl : Sem Bool} {Q : Value × List Value → Shared → Prop} (h : Q (.builtin "str.translate", [.str x t]) s) :
    wpAny M A (getMethod (.str x t) (Str.ofString "translate") pl) Q E s := by
  with_reducible exact GM.of (.str x t) (typeIs_str _ _ _) slot_translate type_translate GM.noRef h
theorem getm_sub {M : Model} {A : Around} {E : Value → Shared → Prop} {s : Shared} {w : World} {h₀ : Heap} {L : Addr} {m : Str → Option Value} {pl : Sem Bool} {Q : Value × List Value → Shared → Prop} (F : Fr h₀ L s.heap m) (KX : (hd0.heap_1 w.params).In h₀)
    (h : Q (.builtin "re.Pattern.sub", [.ref 61]) s) :
    wpAny M A (getMethod (.ref 61) (Str.ofString "sub") pl) Q E s := by
  have e : (hd0.heap_1 w.params).lookup 61 = some { cls := .type "re.Pattern", data := .fields #[.str (Str.ofString "([&~|])") 314, .int 32 349, .int 1 0, .none, .none, .ref 60, .int 0 0] } := by kernel_rfl
  have ho := KX.keeps F.keep 61 _ e
  exact getMethod_builtin (T := "re.Pattern") ⟨_, ho, rfl⟩ plainAttrs slot_sub type_sub (fun a e => by cases e; exact ⟨_, ho, rfl⟩) h
end RP
set_option maxRecDepth 100000 in
set_option maxHeartbeats 8000000 in
theorem x_sub1 (w : World) (A : Around) (s : Shared) (Q E : Value → Shared → Prop) (f : Addr) (fd : FuncData) (tk : Tok)
  (KX : (hd0.heap_1 w.params).In s.heap) (hl : s.heap.get? f = some { cls := .type "function", dict := none, data := .func fd, slots := #[] })
  (hQ : ∀ r h' tk' tk2 new, r.cps.toList = [91] → Mem s.heap h' [] new → Q (.str r tk2) ⟨h', s.gens, s.drawn, tk', s.os⟩) :
   wpAny (model pw w) A (call (.builtin "re.Pattern.sub") [.ref 61, .ref f, .str (Str.mk #[91]) tk]) Q E s := by
  x_run
set_option maxRecDepth 100000 in
set_option maxHeartbeats 8000000 in
theorem x_sub2 (w : World) (A : Around) (s : Shared) (Q E : Value → Shared → Prop) (f : Addr) (fd : FuncData) (tk : Tok)
  (KX : (hd0.heap_1 w.params).In s.heap) (hl : s.heap.get? f = some { cls := .type "function", dict := none, data := .func fd, slots := #[] })
  (hQ : ∀ r h' tk' tk2 new, r.cps.toList = [42] → Mem s.heap h' [] new → Q (.str r tk2) ⟨h', s.gens, s.drawn, tk', s.os⟩) :
   wpAny (model pw w) A (call (.builtin "re.Pattern.sub") [.ref 61, .ref f, .str (Str.mk #[42]) tk]) Q E s := by
  x_run
set_option maxRecDepth 100000 in
set_option maxHeartbeats 8000000 in
theorem x_sub3 (w : World) (A : Around) (s : Shared) (Q E : Value → Shared → Prop) (f : Addr) (fd : FuncData) (tk : Tok)
  (KX : (hd0.heap_1 w.params).In s.heap) (hl : s.heap.get? f = some { cls := .type "function", dict := none, data := .func fd, slots := #[] })
  (hQ : ∀ r h' tk' tk2 new, r.cps.toList = [63] → Mem s.heap h' [] new → Q (.str r tk2) ⟨h', s.gens, s.drawn, tk', s.os⟩) :
   wpAny (model pw w) A (call (.builtin "re.Pattern.sub") [.ref 61, .ref f, .str (Str.mk #[63]) tk]) Q E s := by
  x_run
theorem str_of_codes {r : Str} {l : List Nat} (h : r.cps.toList = l) : r = Str.mk l.toArray := by
  cases r with | mk c => simp only at h; rw [← h]
noncomputable abbrev fnO (fd : FuncData) : Obj := { cls := .type "function", dict := none, data := .func fd, slots := #[] }
theorem sub_br {w : World} {A : Around} {E Q : Value → Shared → Prop} {s : Shared} {h₀ : Heap} {L : Addr} {m : Str → Option Value} {news : List (Addr × Obj)} {f : Addr} {fd : FuncData} {tk : Tok} {c : Nat}
    (hc : c = 91 ∨ c = 42 ∨ c = 63) (F : Fr h₀ L s.heap m) (N : News h₀ L s.heap news) (KX : (hd0.heap_1 w.params).In h₀) (hm : (f, fnO fd) ∈ news)
    (h : ∀ h' tk' tk2, Fr h₀ L h' m → News h₀ L h' news → Q (.str (Str.mk #[c]) tk2) { s with heap := h', toks := tk' }) :
    wpAny (model pw w) A (call (.builtin "re.Pattern.sub") [.ref 61, .ref f, .str (Str.mk #[c]) tk]) Q E s := by
  have K' := KX.keeps F.keep
  have hl := N.get hm
  rcases hc with rfl | rfl | rfl
  · refine x_sub1 w A s Q E f fd tk K' hl fun r h' tk' tk2 new e D => ?_
    rw [str_of_codes e]
    exact h h' tk' tk2 (xk0 F N D).1 (xk0 F N D).2
  · refine x_sub2 w A s Q E f fd tk K' hl fun r h' tk' tk2 new e D => ?_
    rw [str_of_codes e]
    exact h h' tk' tk2 (xk0 F N D).1 (xk0 F N D).2
  · refine x_sub3 w A s Q E f fd tk K' hl fun r h' tk' tk2 new e D => ?_
    rw [str_of_codes e]
    exact h h' tk' tk2 (xk0 F N D).1 (xk0 F N D).2
theorem news_drop2 {h₀ h : Heap} {L : Addr} {x y : Addr × Obj} {l : List (Addr × Obj)} (N : News h₀ L h (x :: y :: l)) : News h₀ L h (x :: l) := fun q hq => N q (by
  rcases List.mem_cons.mp hq with e | hq
  · rw [e]; exact .head _
  · exact .tail _ (.tail _ hq))
/-- the lambda's table: empty, or its code -/
noncomputable def TabGood (ps : Array Value) : Prop := ps = #[] ∨ ∃ c', ps = #[rawInt 83, rawInt 39, .ref c']
theorem codeHd {w : World} {h : Heap} (KX : (hd0.heap_1 w.params).In h) : CodeHd h 86 82 := codeHd_of_K KX (by kernel_rfl)
theorem lam_any {w : World} {A : Around} {E Q : Value → Shared → Prop} {s : Shared} {h₀ : Heap} {L a : Addr} {m mg mb : Str → Option Value} {news : List (Addr × Obj)} {g : Obj → List (Addr × Obj)} {ps : Array Value} {cn : Str} {cs : Scope} {p : Program} {loose : List Str} {mean : ExcName → Option Value}
    {params : Arguments} {body : PySem.Expr} {scope : Scope} {e1 e2 : Nat}
    (F : Fr h₀ L s.heap m) (N : News h₀ L s.heap news) (KX : (hd0.heap_1 w.params).In h₀) (T : Top p loose mean mg mb h₀) (U : UpdF 82 (tabObj ps) news g) (hg : TabGood ps)
    (hdef : defaultsOf params (envOf cn cs L a (.ref 86)) = ([], [])) (hcl : closureFor scope (envX cn cs L a (.ref 86) []) = pure [])
    (h : ∀ f fd h' tk ps', Fr h₀ L h' m → News h₀ L h' ((f, fnO fd) :: g (tabObj ps')) → TabGood ps' → (∀ q ∈ news, q.1 < f) → Q (.ref f) { s with heap := h', toks := tk }) :
    wpAny (model pw w) A (eval (.Lambda params body scope ⟨83, 39, e1, e2⟩) (envOf cn cs L a (.ref 86))) Q E s := by
  refine kla_eval hdef ?_
  rcases hg with rfl | ⟨c', rfl⟩
  · refine kla_nest (cl := []) F N T (codeHd KX) rfl U True.intro rfl hcl fun f c' oc vs t ctv h' tk F' N' _ _ hlt hcf => ?_
    exact h f _ h' tk _ F' (news_drop2 N') (.inr ⟨c', rfl⟩) fun q hq => Nat.lt_trans (hlt q hq) hcf
  · obtain ⟨pre, post, hn, hgr, h1, h2⟩ := U.split
    refine kla_hit (cl := []) (c' := c') F N T (codeHd KX) rfl (by rw [hn]; exact List.mem_append_right _ (.head _)) (by simp [TriplesOk, rawInt]) (by simp [codeAmong, rawInt]) hcl fun f ctv h' tk F' N' hlt => ?_
    have N2 := N'
    rw [hn, ← hgr] at N2
    exact h f _ h' tk _ F' N2 (.inr ⟨c', rfl⟩) hlt
local macro_rules | `(tactic| walk_at "getMethod str") => `(tactic| (k_here; with_reducible refine RP.getm_translate ?_))
local macro_rules | `(tactic| walk_at "getMethod ref") => `(tactic| (k_here; (with_reducible show wpAny _ _ (getMethod (Value.ref 61) _ _) _ _ _); k_dflt (refine' RP.getm_sub ?k1 ?k2 ?_; (case k1 => k_asm); (case k2 => k_asm); k_whole)))
local macro_rules | `(tactic| walk_at "eval Lambda") => `(tactic| (k_here; k_dflt (refine' lam_any ?k1 ?k2 ?k3 ?k4 ?k5 ?k6 ?k7 ?k8 ?_; (case k1 => k_asm); (case k2 => k_asm); (case k3 => k_asm); (case k4 => k_asm); (case k5 => k_updF); (case k6 => assumption); (case k7 => exact rfl); (case k8 => exact rfl); k_whole); intro f' fd' h' tk' ps' F' N' g' l1; (try dsimp only at N'); (try k_lt l1); (try k_sweep)))
local macro_rules | `(tactic| walk_at "call builtin:re.Pattern.sub") => `(tactic| (k_here; k_dflt (refine' sub_br ?k1 ?k2 ?k3 ?k4 ?k5 ?_; (case k1 => first | exact Or.inl rfl | exact Or.inr (Or.inl rfl) | exact Or.inr (Or.inr rfl)); (case k2 => k_asm); (case k3 => k_asm); (case k4 => k_asm); (case k5 => k_mem); k_whole); intro h' tk' t' F' N'; (try k_sweep)))
section
open Builtin Builtin.Str
variable {prog : Program} {w : World} {A : Around} {s : Shared} {E : Value → Shared → Prop} {f : Int → Option Value} {c : Nat}
theorem look_text {x : PySem.Str} {tk : Tok} {Q : Mapped → Shared → Prop} (hm : s.heap.MapOf (intKind prog w) 70 f) (hv : f (c : Int) = some (.str x tk)) (h : ∀ k, Q (.text x) { s with toks := k }) :
    wpAny (model prog w) A (tableLookup (.ref 70) c) Q E s := by
  unfold tableLookup
  refine wpAny_bind (wpAny_attempt (wpAny_bind (wpAny_mkInt ?_)))
  refine wpAny_getItem_of (s := { s with toks := s.toks + 1 }) (intKind_is prog w (c : Int) s.toks) hm hv ?_
  dsimp only
  refine wpAny_bind (wpAny_of_eq (a := none) rfl ?_)
  dsimp only
  refine wpAny_bind (wpAny_of_eq (a := some x) rfl ?_)
  exact wpAny_pure (h _)
theorem look_keep {Q : Mapped → Shared → Prop} (hh : A.handled = none) (hm : s.heap.MapOf (intKind prog w) 70 f) (hv : f (c : Int) = none)
    (h : ∀ h' k, (∀ b o, s.heap.get? b = some o → h'.get? b = some o) → Q .keep { s with heap := h', toks := k }) :
    wpAny (model prog w) A (tableLookup (.ref 70) c) Q E s := by
  unfold tableLookup
  refine wpAny_bind (wpAny_attempt (wpAny_bind (wpAny_mkInt ?_)))
  refine wpAny_getItem_missing_of (s := { s with toks := s.toks + 1 }) (intKind_is prog w (c : Int) s.toks) (by decide) hh hm hv fun h' e hx => ?_
  dsimp only
  obtain ⟨ob, t, ho, hc, hd⟩ := hx.there
  have hsub : isSubtype (.type "KeyError") (.type "LookupError") = pure true := by rw [isSubtype_type]; kernel_rfl
  refine wpAny_bind (wpAny_isInstance (T := "KeyError") ⟨ob, ho, hc⟩ hsub ?_)
  refine KFB.if_so rfl ?_
  refine wpAny_bind (wpAny_rule ?_)
  exact wpAny_pure (h h' _ hx.keeps)
theorem forIn_one {β : Type} {x : Nat} {b : β} {f : Nat → β → Sem (ForInStep β)} : (forIn #[x] b f : Sem β) = forIn [x] b f := by
  rw [← Array.forIn_toList]
theorem tr_keep {t : Tok} (hc : c < 128) (hv : f (c : Int) = none) : Meets («str.translate» ⟨[.str (PySem.Str.mk #[c]) t, .ref 70], []⟩)
    (fun A R s => A.handled = none ∧ s.heap.MapOf (intKind prog w) 70 f ∧ ∀ h' k k', (∀ b o, s.heap.get? b = some o → h'.get? b = some o) → R (.ok (.ret (.str (PySem.Str.mk #[c]) k'))) { s with heap := h', toks := k }) := by
  intro prog' w' A R s ⟨hh, hm, hs⟩
  have hm' : s.heap.MapOf (intKind prog' w') 70 f := hm
  unfold «str.translate»
  refine wpAny_bind (wpAny_of_eq (a := (.str (PySem.Str.mk #[c]) t, PySem.Str.mk #[c], .ref 70)) rfl ?_)
  refine KFB.if_not rfl ?_
  dsimp only
  rw [forIn_one]
  refine wpAny_bind (KPc.turn ?_)
  refine KFB.if_not rfl ?_
  have h128 : (#[c].all fun x => decide (x < 128)) = true := by simp [hc]
  dsimp only
  refine KFB.if_so h128 ?_
  dsimp only [List.lookup]
  refine wpAny_bind (look_keep (A := A.in1) hh hm' hv fun h' k hk => ?_)
  dsimp only
  refine wpAny_bind (wpAny_pure ?_)
  dsimp only
  refine wpAny_pure ?_
  dsimp only
  rw [List.forIn_nil]
  refine wpAny_pure ?_
  dsimp only
  refine KFB.if_not rfl ?_
  unfold retStr
  refine wpAny_bind (wpAny_mkStr ?_ ?_)
  · refine wpAny_pure ?_
    have e : (PySem.Str.mk (List.foldl (fun acc p => acc ++ p.cps) #[] (List.reverse [(PySem.Str.mk #[c])]))) = PySem.Str.mk #[c] := by simp
    dsimp only at e ⊢
    rw [e]
    exact hs h' _ _ hk
  · show _ ≤ _
    simp [PySem.Str.length, sizeLine]
theorem tr_text {t tk : Tok} {x : PySem.Str} (hc : c < 128) (hx : x.length = 2) (hv : f (c : Int) = some (.str x tk)) : Meets («str.translate» ⟨[.str (PySem.Str.mk #[c]) t, .ref 70], []⟩)
    (fun A R s => A.handled = none ∧ s.heap.MapOf (intKind prog w) 70 f ∧ ∀ h' k k', (∀ b o, s.heap.get? b = some o → h'.get? b = some o) → R (.ok (.ret (.str x k'))) { s with heap := h', toks := k }) := by
  intro prog' w' A R s ⟨hh, hm, hs⟩
  have hm' : s.heap.MapOf (intKind prog' w') 70 f := hm
  unfold «str.translate»
  refine wpAny_bind (wpAny_of_eq (a := (.str (PySem.Str.mk #[c]) t, PySem.Str.mk #[c], .ref 70)) rfl ?_)
  refine KFB.if_not rfl ?_
  dsimp only
  rw [forIn_one]
  refine wpAny_bind (KPc.turn ?_)
  refine KFB.if_not rfl ?_
  have h128 : (#[c].all fun x => decide (x < 128)) = true := by simp [hc]
  dsimp only
  refine KFB.if_so h128 ?_
  dsimp only [List.lookup]
  refine wpAny_bind (look_text (A := A.in1) hm' hv fun k => ?_)
  have hl1 : (x.length == 1 && x.cps.all fun y => decide (y < 128)) = false := by rw [hx]; rfl
  simp only [hl1, Bool.false_eq_true, if_false]
  refine wpAny_bind (wpAny_pure ?_)
  dsimp only
  refine wpAny_bind (wpAny_rule ?_)
  refine wpAny_bind (look_text (A := A.in1) (s := { s with toks := k }) hm' hv fun k => ?_)
  dsimp only
  refine wpAny_pure ?_
  dsimp only
  rw [List.forIn_nil]
  refine wpAny_pure ?_
  dsimp only
  have hl2 : tooLong (0 + x.length) = false := by rw [hx]; rfl
  refine KFB.if_not hl2 ?_
  unfold retStr
  have e : (PySem.Str.mk (List.foldl (fun acc p => acc ++ p.cps) #[] (List.reverse [x]))) = x := by simp
  refine wpAny_bind (wpAny_mkStr ?_ ?_)
  · refine wpAny_pure ?_
    dsimp only at e ⊢
    rw [e]
    exact hs s.heap _ _ fun _ _ e => e
  · rw [e, hx]; decide
end
local macro_rules | `(tactic| walk_at "PAD") => `(tactic| fail)

/- the special signs' table -/
noncomputable def trEs : Array DictEntry := #[
  ⟨40, .int 40 363, .str (Str.ofString "\\(") 367⟩,
  ⟨41, .int 41 369, .str (Str.ofString "\\)") 373⟩,
  ⟨91, .int 91 375, .str (Str.ofString "\\[") 379⟩,
  ⟨93, .int 93 381, .str (Str.ofString "\\]") 385⟩,
  ⟨123, .int 123 387, .str (Str.ofString "\\{") 391⟩,
  ⟨125, .int 125 393, .str (Str.ofString "\\}") 397⟩,
  ⟨63, .int 63 399, .str (Str.ofString "\\?") 403⟩,
  ⟨42, .int 42 405, .str (Str.ofString "\\*") 409⟩,
  ⟨43, .int 43 411, .str (Str.ofString "\\+") 415⟩,
  ⟨45, .int 45 417, .str (Str.ofString "\\-") 421⟩,
  ⟨124, .int 124 423, .str (Str.ofString "\\|") 427⟩,
  ⟨94, .int 94 429, .str (Str.ofString "\\^") 433⟩,
  ⟨36, .int 36 435, .str (Str.ofString "\\$") 439⟩,
  ⟨92, .int 92 441, .str (Str.ofString "\\\\") 445⟩,
  ⟨46, .int 46 447, .str (Str.ofString "\\.") 451⟩,
  ⟨38, .int 38 453, .str (Str.ofString "\\&") 457⟩,
  ⟨126, .int 126 459, .str (Str.ofString "\\~") 463⟩,
  ⟨35, .int 35 465, .str (Str.ofString "\\#") 469⟩,
  ⟨32, .int 32 471, .str (Str.ofString "\\ ") 475⟩,
  ⟨9, .int 9 477, .str (Str.ofString "\\\t") 481⟩,
  ⟨10, .int 10 483, .str (Str.ofString "\\\n") 487⟩,
  ⟨13, .int 13 489, .str (Str.ofString "\\\x0d") 493⟩,
  ⟨11, .int 11 495, .str (Str.ofString "\\\x0b") 499⟩,
  ⟨12, .int 12 501, .str (Str.ofString "\\\x0c") 505⟩]
noncomputable def trF (w : World) (k : Int) : Option Value := findBy (intKind pw w).is trEs k
noncomputable def escS : List Nat := [40, 41, 91, 93, 123, 125, 63, 42, 43, 45, 124, 94, 36, 92, 46, 38, 126, 35, 32, 9, 10, 13, 11, 12]
noncomputable def escC (c : Nat) : List Nat := if escS.contains c then [92, c] else [c]
noncomputable def litS : List Nat := [33, 93, 45, 94, 92, 97, 46, 126, 35, 32, 10, 59, 38, 109, 112, 108, 116, 103, 60, 62]
theorem trKeys (w : World) : KeysOf (intKind pw w) trEs := by
  intro e he
  simp only [trEs, List.mem_toArray, List.mem_cons, List.not_mem_nil, or_false] at he
  rcases he with rfl | rfl | rfl | rfl | rfl | rfl | rfl | rfl | rfl | rfl | rfl | rfl | rfl | rfl | rfl | rfl | rfl | rfl | rfl | rfl | rfl | rfl | rfl | rfl <;> exact ⟨_, by first | exact decide_eq_true rfl | rfl, rfl⟩
theorem trMap {w : World} {h : Heap} (KX : (hd0.heap_1 w.params).In h) : h.MapOf (intKind pw w) 70 (trF w) :=
  ⟨{ cls := .type "dict", data := .dict trEs 24 }, trEs, 24, KX 70 _ (by kernel_rfl), ⟨rfl, rfl, rfl⟩, rfl, trKeys w, fun _ => rfl⟩
theorem tr_cases (w : World) {c : Nat} (hc : c ∈ litS) : c < 128 ∧ ((trF w (c : Int) = none ∧ escC c = [c]) ∨ ∃ tk, trF w (c : Int) = some (.str (Str.mk (escC c).toArray) tk) ∧ (escC c).length = 2) := by
  simp only [litS, List.mem_cons, List.not_mem_nil, or_false] at hc
  rcases hc with rfl | rfl | rfl | rfl | rfl | rfl | rfl | rfl | rfl | rfl | rfl | rfl | rfl | rfl | rfl | rfl | rfl | rfl | rfl | rfl
  · exact ⟨by decide, .inl ⟨by kernel_rfl, by decide⟩⟩
  · exact ⟨by decide, .inr ⟨385, by kernel_rfl, by decide⟩⟩
  · exact ⟨by decide, .inr ⟨421, by kernel_rfl, by decide⟩⟩
  · exact ⟨by decide, .inr ⟨433, by kernel_rfl, by decide⟩⟩
  · exact ⟨by decide, .inr ⟨445, by kernel_rfl, by decide⟩⟩
  · exact ⟨by decide, .inl ⟨by kernel_rfl, by decide⟩⟩
  · exact ⟨by decide, .inr ⟨451, by kernel_rfl, by decide⟩⟩
  · exact ⟨by decide, .inr ⟨463, by kernel_rfl, by decide⟩⟩
  · exact ⟨by decide, .inr ⟨469, by kernel_rfl, by decide⟩⟩
  · exact ⟨by decide, .inr ⟨475, by kernel_rfl, by decide⟩⟩
  · exact ⟨by decide, .inr ⟨487, by kernel_rfl, by decide⟩⟩
  · exact ⟨by decide, .inl ⟨by kernel_rfl, by decide⟩⟩
  · exact ⟨by decide, .inr ⟨457, by kernel_rfl, by decide⟩⟩
  · exact ⟨by decide, .inl ⟨by kernel_rfl, by decide⟩⟩
  · exact ⟨by decide, .inl ⟨by kernel_rfl, by decide⟩⟩
  · exact ⟨by decide, .inl ⟨by kernel_rfl, by decide⟩⟩
  · exact ⟨by decide, .inl ⟨by kernel_rfl, by decide⟩⟩
  · exact ⟨by decide, .inl ⟨by kernel_rfl, by decide⟩⟩
  · exact ⟨by decide, .inl ⟨by kernel_rfl, by decide⟩⟩
  · exact ⟨by decide, .inl ⟨by kernel_rfl, by decide⟩⟩
theorem entry_tr : entryFor table "str.translate" = some Builtin.«str.translate» := entryFor_of_tree (by kernel_rfl)
theorem args_tr (a b : Value) : argsOk "str.translate" ⟨[a, b], []⟩ := by
  unfold argsOk; rw [signature?_of (id := "str.translate") (n := ['e', 't', 'a', 'l', 's', 'n', 'a', 'r', 't']) (o := ['r', 't', 's']) (by kernel_rfl) F.owner_str]; kernel_rfl
theorem tr_call {w : World} {A : Around} {E Q : Value → Shared → Prop} {s : Shared} {h₀ : Heap} {L : Addr} {m : Str → Option Value} {news : List (Addr × Obj)} {c : Nat} {tk : Tok} (hc : c ∈ litS) (hh : A.handled = none)
    (F : Fr h₀ L s.heap m) (N : News h₀ L s.heap news) (KX : (hd0.heap_1 w.params).In h₀)
    (h : ∀ h' k k', Fr h₀ L h' m → News h₀ L h' news → Q (.str (Str.mk (escC c).toArray) k') { s with heap := h', toks := k }) :
    wpAny (model pw w) A (call (.builtin "str.translate") [.str (Str.mk #[c]) tk, .ref 70]) Q E s := by
  have hm := trMap (KX.keeps F.keep)
  obtain ⟨h1, ⟨h2, h3⟩ | ⟨t, h2, h3⟩⟩ := tr_cases w hc
  · refine call_meets RP.slot_translate (typeIs_str _ _ _) entry_tr (args_tr _ _) (tr_keep (prog := pw) (w := w) h1 h2) ⟨hh, hm, fun h' k k' hk => ?_⟩
    have z := h h' k k' (F.keeps hk) (N.grown hk)
    rw [h3] at z
    exact z
  · refine call_meets RP.slot_translate (typeIs_str _ _ _) entry_tr (args_tr _ _) (tr_text (prog := pw) (w := w) h1 (by simp [Str.length, h3]) h2) ⟨hh, hm, fun h' k k' hk => ?_⟩
    exact h h' k k' (F.keeps hk) (N.grown hk)
local macro_rules | `(tactic| walk_at "call builtin:str.translate") => `(tactic| (k_here; (with_reducible show wpAny _ _ (call (Value.builtin "str.translate") [Value.str _ _, Value.ref _]) _ _ _); k_dflt (refine' tr_call ?k1 ?k2 ?k3 ?k4 ?k5 ?_; (case k1 => assumption); (case k2 => exact rfl); (case k3 => k_asm); (case k4 => k_asm); (case k5 => k_asm); k_whole; intro h' k1' k2' F' N'; (try k_sweep))))
theorem esc_call {w : World} {p : Program} {loose : List Str} {mean : ExcName → Option Value} {mg mb : Str → Option Value} {dp un : Nat} {gd : Option (List Code)} {cn : Str} {cs : Scope} {a : Addr} {ccd : Value} {cl : List (Str × Addr)} {outer : List Env} {A₀ : Around} {base h₀ : Heap} {L : Addr} {m : Str → Option Value} {news : List (Addr × Obj)} {s : Shared} {Q : Value → Shared → Prop} {c : Nat} {tk : Tok}
  (hc : c ∈ litS) (B : Below A₀ base outer h₀) (F : Fr h₀ L s.heap m) (KX : (hd0.heap_1 w.params).In h₀) (N : News h₀ L s.heap news) (T : Top p loose mean mg mb h₀) (hk : cs.kind = .function)
  (hd : dp + 5 < recursionLimit) (hu : un + 40 < cLine)
  (hret : ∀ h' tk' t, Fr h₀ L h' m → News h₀ L h' news → Q (.str (Str.mk (escC c).toArray) t) {s with heap := h', toks := tk'}) :
   wpAny (model pw w) (ktrTop dp un gd cn cs L a ccd cl outer) (call (.ref 80) [.str (Str.mk #[c]) tk]) Q (fun _ _ => False) s := by
  refine wpAny_call ?_
  k_dflt walk_at "MY ENTER"
  k_steps
  all_goals exact hret _ _ _ (by k_asm) (by k_asm)

/- tokens of a pattern -/
inductive PTok where
  | lit (c : Nat)
  | star
  | q
  | br (c : Nat)
noncomputable def PTok.codes : PTok → List Nat
  | .lit c => [c]
  | .star => [42]
  | .q => [63]
  | .br c => [91, c, 93]
noncomputable def PTok.Ok : PTok → Prop
  | .lit c => c ∈ litS
  | .star => True
  | .q => True
  | .br c => c = 91 ∨ c = 42 ∨ c = 63
noncomputable def brT (c : Nat) : List Nat := if c = 91 then [91, 92, 91, 93] else [91, c, 93]
noncomputable abbrev PPart := Option (List Nat)
noncomputable def partStep (ps : List PPart) : PTok → List PPart
  | .lit c => ps ++ [some (escC c)]
  | .star => if ps.getLast? = some none then ps else ps ++ [none]
  | .q => ps ++ [some [46]]
  | .br c => ps ++ [some (brT c)]
noncomputable def partsOf (ts : List PTok) : List PPart := ts.foldl partStep []
noncomputable def IsPart (star : Addr) (v : Value) (p : PPart) : Prop := match p with
  | none => v = .ref star
  | some l => ∃ tk, v = .str (Str.mk l.toArray) tk
noncomputable def PartsAre (star : Addr) : List Value → List PPart → Prop
  | [], [] => True
  | v :: vs, p :: ps => IsPart star v p ∧ PartsAre star vs ps
  | _, _ => False
theorem PartsAre.snoc {star : Addr} {v : Value} {p : PPart} : ∀ {vs : List Value} {ps : List PPart}, PartsAre star vs ps → IsPart star v p → PartsAre star (vs ++ [v]) (ps ++ [p])
  | [], [], _, h => ⟨h, trivial⟩
  | _ :: _, _ :: _, h, h' => ⟨h.1, PartsAre.snoc h.2 h'⟩
theorem PartsAre.last {star : Addr} : ∀ {vs : List Value} {ps : List PPart}, PartsAre star vs ps → (vs = [] ∧ ps = []) ∨ ∃ vs' v ps' p, vs = vs' ++ [v] ∧ ps = ps' ++ [p] ∧ IsPart star v p
  | [], [], _ => .inl ⟨rfl, rfl⟩
  | v :: vs, p :: ps, h => .inr (by
    rcases PartsAre.last h.2 with ⟨rfl, rfl⟩ | ⟨vs', v', ps', p', rfl, rfl, h'⟩
    · exact ⟨[], v, [], p, rfl, rfl, h.1⟩
    · exact ⟨v :: vs', v', p :: ps', p', rfl, rfl, h'⟩)
theorem PartsAre.length {star : Addr} : ∀ {vs : List Value} {ps : List PPart}, PartsAre star vs ps → vs.length = ps.length
  | [], [], _ => rfl
  | _ :: _, _ :: _, h => by rw [List.length_cons, List.length_cons, PartsAre.length h.2]
local macro_rules | `(tactic| walk_at "call ref") => `(tactic| (k_here; (with_reducible show wpAny _ _ (call (Value.ref 80) [Value.str (Str.mk _) _]) _ _ _); k_dflt (refine' esc_call ?k1 ?k2 ?k3 ?k4 ?k5 ?k6 ?k7 ?k8 ?k9 ?_; (case k1 => assumption); (case k2 => k_asm); (case k3 => k_asm); (case k4 => k_asm); (case k5 => k_asm); (case k6 => k_asm); (case k7 => exact rfl); (case k8 => ktr_room); (case k9 => ktr_units); k_whole; intro h' tk' t' F' N'; (try k_sweep))))
noncomputable def At (x : Str) (i : Int) (c : Nat) : Prop := 0 ≤ i ∧ i < 2 ^ 62 ∧ x.cps[i.toNat]? = some c
theorem At.lt {x : Str} {i : Int} {c : Nat} (h : At x i c) : i < x.length := by
  obtain ⟨h0, _, h2⟩ := h
  obtain ⟨h3, _⟩ := Array.getElem?_eq_some_iff.mp h2
  show i < (x.cps.size : Int)
  omega
theorem At.char {x : Str} {i : Int} {c : Nat} (h : At x i c) : Txt.charAt x i = some c := by
  unfold Txt.charAt
  rw [seqIndex_of h.1 h.lt]
  exact h.2.2
theorem At.item {x : Str} {i : Int} {c : Nat} (h : At x i c) : Txt.item x i = Str.mk #[c] := by
  unfold Txt.item; rw [h.char]; rfl
theorem At.slice {x : Str} {i : Int} {c : Nat} (h : At x i c) : Txt.slice x (some i) (some (i + 1)) = Str.mk #[c] := by
  have hi : Builtin.Str.strSliceIndices (some i) (some (i + 1)) 1 x.length = [i.toNat] := by
    have h1 := h.1
    have h2 := h.lt
    unfold Builtin.Str.strSliceIndices sliceRange
    have e1 : (if i < 0 then i + (x.length : Int) else i) = i := if_neg (by omega)
    have e2 : (if i + 1 < 0 then i + 1 + (x.length : Int) else i + 1) = i + 1 := if_neg (by omega)
    simp only [show (1 : Int) > 0 by decide, if_true, e1, e2]
    have e3 : max 0 (min i (x.length : Int)) = i := by omega
    have e4 : max 0 (min (i + 1) (x.length : Int)) = i + 1 := by omega
    rw [e3, e4, if_pos (by omega)]
    have e5 : (i + 1 - i + 1 - 1) / 1 = 1 := by omega
    rw [e5]
    simp
  unfold Txt.slice
  rw [hi]
  have hc := h.2.2
  split
  · rename_i hl
    have hl' : x.length = 1 := by have := hl; simp at this; exact this.symm
    have : i.toNat = 0 := by have := h.lt; have := h.1; omega
    rw [this] at hc
    cases x with | mk cs =>
    have hs : cs.size = 1 := hl'
    obtain ⟨l⟩ := cs
    match l, hs with
    | [y], _ => simp at hc; rw [hc]
  · simp [hc]
section
variable {w : World} {A : Around} {E Q : Value → Shared → Prop} {s : Shared} {h₀ : Heap} {L : Addr} {m : Str → Option Value} {news : List (Addr × Obj)} {x : Str} {t u : Tok} {i : Int} {c : Nat} {value slice : PySem.Expr}
theorem item_at (h : At x i c) (hq : Q (.str (Str.mk #[c]) s.toks) { s with toks := s.toks + 1 })
    (hs : subscripted slice false (.str x t) (.int i u) = operate [.str x t, .int i u] (getItem (.str x t) (.int i u)) := by with_unfolding_all rfl)
    (ht : ∀ r, letTemporaryGo value (.str x t) r = pure () := by intro _; with_unfolding_all rfl) :
    wpAny (model pw w) A (subscriptTail value slice (.str x t) (.int i u)) Q E s := by
  refine item_str (fitsSsize_of (N := 2 ^ 62) (by have := h.1; omega) (by have := h.2.1; omega) (by decide)) (by have := h.1; omega) h.lt (fun _ => ?_) hs ht
  rw [h.item]
  exact hq
theorem slice_at {ui uj : Tok} (h : At x i c) (hF : Fr h₀ L s.heap m) (hN : News h₀ L s.heap news) (hq : ∀ h' t' k, Fr h₀ L h' m → News h₀ L h' news → Q (.str (Str.mk #[c]) t') { s with heap := h', toks := k })
    (hsz : x.length ≤ sizeLine)
    (hs : subscripted slice false (.str x t) (.ref s.heap.objs.size) = operate [.ref s.heap.objs.size, .str x t] (getItem (.str x t) (.ref s.heap.objs.size)) := by with_unfolding_all rfl)
    (ht : ∀ r, letTemporaryGo value (.str x t) r = pure () := by intro _; with_unfolding_all rfl) :
    wpAny (model pw w) A (subscriptTail value slice (.str x t) (.ref s.heap.objs.size)) Q E { s with heap := s.heap.push { cls := .type "slice", data := .fields #[.int i ui, .int (i + 1) uj, .none] } } := by
  refine slice_strN_ss hF hN (fun h' t' k F N => ?_) hs ht hsz
  rw [h.slice]
  exact hq h' t' k F N
end
theorem sub_refl {l : List (Addr × Obj)} : ∀ p ∈ l, p ∈ l := fun _ h => h
theorem sub_tail {x : Addr × Obj} {l l' : List (Addr × Obj)} (h : ∀ p ∈ l, p ∈ l') : ∀ p ∈ l, p ∈ x :: l' := fun p hp => .tail _ (h p hp)
theorem allNe_mk {d : Addr} : ∀ {l : List (Addr × Obj)}, (∀ p ∈ l, p.1 ≠ d) → AllNe d l := allNe_of
theorem updF_same {P : Addr} {o : Obj} {news : List (Addr × Obj)} {g : Obj → List (Addr × Obj)} (U : UpdF P o news g) : news = g o := by
  obtain ⟨pre, post, h1, h2, _, _⟩ := U.split
  rw [h1, h2]
theorem updF_again {P : Addr} {o o' : Obj} : ∀ {news : List (Addr × Obj)} {g : Obj → List (Addr × Obj)}, UpdF P o news g → UpdF P o' (g o') g
  | _, _, .head h => .head h
  | _, _, .tail h r => .tail h (updF_again r)
theorem allNe_g {P d : Addr} {o o' : Obj} {news : List (Addr × Obj)} {g : Obj → List (Addr × Obj)} (U : UpdF P o news g) (h : AllNe d news) : AllNe d (g o') := by
  obtain ⟨pre, post, h1, h2, _, _⟩ := U.split
  rw [h1] at h
  rw [h2]
  have h' := allNe_of_ne h
  refine allNe_of fun p hp => ?_
  rcases List.mem_append.mp hp with hp | hp
  · exact h' p (List.mem_append_left _ hp)
  · rcases List.mem_cons.mp hp with e | hp
    · rw [e]; exact h' (P, o) (List.mem_append_right _ (.head _))
    · exact h' p (List.mem_append_right _ (.tail _ hp))
noncomputable def codesOf (ts : List PTok) : List Nat := ts.flatMap PTok.codes
structure TSt where
  pre : List PTok
  rest : List PTok
  its : Array Value
  n : Nat
  i : Int
  tki : Tok
  ps : Array Value
noncomputable def MyStop (P : Prop) : Prop := P
theorem myStop {P : Prop} (h : MyStop P) : P := h
theorem updF_ne {P d : Addr} {o : Obj} {news : List (Addr × Obj)} {g : Obj → List (Addr × Obj)} (U : UpdF P o news g) (h : AllNe d news) : P ≠ d := by
  obtain ⟨pre, post, h1, _, _, _⟩ := U.split
  rw [h1] at h
  exact allNe_of_ne h (P, o) (List.mem_append_right _ (.head _))
theorem news_sub {h₀ h : Heap} {L : Addr} {l : List (Addr × Obj)} (l' : List (Addr × Obj)) (N : News h₀ L h l) (hs : ∀ p ∈ l', p ∈ l) : News h₀ L h l' := fun q hq => N q (hs q hq)
theorem at_of {cs P R : List Nat} {c : Nat} (h : cs = P ++ c :: R) (hl : cs.length ≤ 10000) {i : Int} (hi : i = (P.length : Nat)) : At (Str.mk cs.toArray) i c := by
  have hP : P.length < cs.length := by rw [h]; simp
  refine ⟨by omega, by omega, ?_⟩
  show cs.toArray[i.toNat]? = some c
  have : i.toNat = P.length := by omega
  rw [this, h]
  simp
theorem ne_one {c d : Nat} (h : c ≠ d) : (Str.mk #[c] == Str.mk #[d]) = false := by
  simp [h]
theorem codesOf_append (a b : List PTok) : codesOf (a ++ b) = codesOf a ++ codesOf b := by unfold codesOf; rw [List.flatMap_append]
theorem codesOf_cons (t : PTok) (b : List PTok) : codesOf (t :: b) = t.codes ++ codesOf b := by unfold codesOf; rw [List.flatMap_cons]
theorem partsOf_snoc (a : List PTok) (t : PTok) : partsOf (a ++ [t]) = partStep (partsOf a) t := by unfold partsOf; rw [List.foldl_append]; rfl
theorem len_codes : ∀ ts : List PTok, ts.length ≤ (codesOf ts).length
  | [] => Nat.le_refl _
  | t :: ts => by
    rw [codesOf_cons, List.length_cons, List.length_append]
    have := len_codes ts
    cases t <;> simp only [PTok.codes, List.length_cons, List.length_nil] <;> omega
theorem len_partStep (ps : List PPart) (t : PTok) : (partStep ps t).length ≤ ps.length + 1 := by
  cases t <;> simp only [partStep, List.length_append, List.length_cons, List.length_nil] <;> first | omega | (split <;> simp)
theorem len_partsOf (ts : List PTok) : ∀ ps, (ts.foldl partStep ps).length ≤ ps.length + ts.length := by
  induction ts with
  | nil => intro ps; simp
  | cons t ts ih => intro ps; rw [List.foldl_cons, List.length_cons]; have := ih (partStep ps t); have := len_partStep ps t; omega
theorem its_size {star : Addr} {its : Array Value} {pre rest toks : List PTok} (h : PartsAre star its.toList (partsOf pre)) (hpre : pre ++ rest = toks) (hl : (codesOf toks).length ≤ 10000) : its.size ≤ 10000 := by
  have h1 := h.length
  have h2 := len_partsOf pre []
  have h3 := len_codes toks
  rw [← hpre, List.length_append] at h3
  have e : (partsOf pre).length ≤ pre.length := by simpa [partsOf] using h2
  have e2 : its.toList.length = its.size := Array.length_toList
  rw [hpre] at h3
  omega
theorem lit_ne {c : Nat} (hc : c ∈ litS) : (Str.mk #[c] == Str.ofString "*") = false ∧ (Str.mk #[c] == Str.ofString "?") = false ∧ (Str.mk #[c] == Str.ofString "[") = false := by
  simp only [litS, List.mem_cons, List.not_mem_nil, or_false] at hc
  rcases hc with rfl | rfl | rfl | rfl | rfl | rfl | rfl | rfl | rfl | rfl | rfl | rfl | rfl | rfl | rfl | rfl | rfl | rfl | rfl | rfl <;> decide
theorem isPart_str {star : Addr} {l : List Nat} {tk : Tok} : IsPart star (.str (Str.mk l.toArray) tk) (some l) := ⟨_, rfl⟩
theorem isPart_of {star : Addr} {l : List Nat} {x : Str} {tk : Tok} (h : x = Str.mk l.toArray) : IsPart star (.str x tk) (some l) := ⟨tk, by rw [h]⟩
theorem isPart_star {star : Addr} : IsPart star (.ref star) none := rfl
theorem PartsAre.push {star : Addr} {its : Array Value} {v : Value} {ps : List PPart} {p : PPart} (h : PartsAre star its.toList ps) (h' : IsPart star v p) : PartsAre star (its.push v).toList (ps ++ [p]) := by
  rw [Array.toList_push]; exact h.snoc h'
noncomputable def ListTruth (its : Array Value) (b : Bool) : Prop := (!its.isEmpty) = b
noncomputable def LastIs (its : Array Value) (v : Value) : Prop := its.toList.getLast? = some v
section
variable {w : World} {A : Around} {E Q : Value → Shared → Prop} {s : Shared} {h₀ : Heap} {L l : Addr} {m : Str → Option Value} {news : List (Addr × Obj)} {its : Array Value} {n : Nat} {value slice : PySem.Expr} {k : Int} {t : Tok} {v : Value}
theorem isList_made (N : News h₀ L s.heap news) (hm : (l, listOf its n) ∈ news) : s.heap.IsList l its := ⟨_, N.get hm, rfl, n, rfl⟩
theorem truthy_made {Q : Bool → Shared → Prop} {b : Bool} (N : News h₀ L s.heap news) (hm : (l, listOf its n) ∈ news) (hz : its.size ≤ sizeLine) (hb : ListTruth its b) (h : ∀ k, Q b { s with toks := k }) :
    wpAny (model pw w) A (truthy (.ref l)) Q E s := by
  refine wpAny_truthy_list (isList_made N hm) (by rw [sizeLine_eq] at hz; omega) ?_
  rw [hb]
  exact h _
theorem last_made (N : News h₀ L s.heap news) (hm : (l, listOf its n) ∈ news) (hz : its.size ≤ sizeLine) (hv : LastIs its v) (hk : k = -1) (h : Q v s)
    (hs : subscripted slice false (.ref l) (.int k t) = operate [.ref l, .int k t] (getItem (.ref l) (.int k t)) := by with_unfolding_all rfl) :
    wpAny (model pw w) A (subscriptTail value slice (.ref l) (.int k t)) Q E s := by
  have hl := isList_made N hm
  have hne : its.size ≠ 0 := by
    intro e
    have : its = #[] := Array.eq_empty_of_size_eq_zero e
    rw [this] at hv
    cases hv
  refine tail_any hl.typeIs slot_list_getitem.lookup (wpAny_getItem_list_neg hl (by omega) (by omega) (by omega) (x := v) ?_ h) hs
  have e : (k + (its.size : Int)).toNat = its.size - 1 := by omega
  rw [e, ← Array.getElem?_toList]
  have hv' := hv
  unfold LastIs at hv'
  rw [List.getLast?_eq_getElem?] at hv'
  simpa using hv'
end
section
open Builtin.Str
variable {prog : Program} {w : World} {A : Around} {E Q : Value → Shared → Prop} {s : Shared} {x y z : Str} {t u v : Tok}
theorem rep_none (h : (occurrences x y 0 x.length (x.length + 1)).isEmpty = true) (hq : Q (.str x t) s) : wpAny (model prog w) A (call (.builtin "str.replace") [.str x t, .str y u, .str z v]) Q E s := by
  refine call_gives F.slot_str_replace (typeIs_str _ _ _) F.entry_str_replace (F.args_str_replace_3 _ _ _)
    (gives_str_replace x y z t u v fun hc => by rw [h] at hc; cases hc) ?_
  rw [h]
  exact hq
end
noncomputable def TabU (g : Obj → List (Addr × Obj)) : Prop := ∀ ps, UpdF 82 (tabObj ps) (g (tabObj ps)) g
theorem TabU.at {g : Obj → List (Addr × Obj)} {ps : Array Value} (h : TabU g) : UpdF 82 (tabObj ps) (g (tabObj ps)) g := h ps
noncomputable def NeG (d : Addr) (g : Obj → List (Addr × Obj)) : Prop := ∀ ps, AllNe d (g (tabObj ps))
theorem NeG.at {d : Addr} {g : Obj → List (Addr × Obj)} {ps : Array Value} (h : NeG d g) : ∀ p ∈ g (tabObj ps), p.1 ≠ d := allNe_of_ne (h ps)
local macro_rules | `(tactic| k_updF) => `(tactic| first | assumption | exact TabU.at (by assumption))
local macro_rules | `(tactic| k_all) => `(tactic| first | assumption | exact allNe_of_lt (by assumption) | exact allNe_of_ne (by assumption) | exact NeG.at (by assumption))
local macro_rules | `(tactic| walk_at "MY SUB") => `(tactic| first | exact sub_refl | (refine sub_tail ?subA; (case subA => walk_at "MY SUB")))
local macro_rules | `(tactic| walk_at "MY LED") => `(tactic| first | walk_at "MY SUB" | (refine List.forall_mem_cons.mpr ⟨?ledA, ?ledB⟩; (case ledA => k_mem); (case ledB => walk_at "MY LED")))
local macro_rules | `(tactic| walk_at "subscriptTail Name Name str int") => `(tactic| (k_here; (with_reducible show wpAny _ _ (subscriptTail _ _ (Value.str _ _) (Value.int _ _)) _ _ _); k_dflt (refine' item_at ?k1 ?_; (case k1 => assumption); k_whole)))
local macro_rules | `(tactic| walk_at "subscriptTail Name Slice str ref") => `(tactic| (k_here; (with_reducible show wpAny _ _ (subscriptTail _ (Expr.Slice (some _) (some _) none _) _ _) _ _ _); (with_reducible rename Fr _ _ _ _ => F'); (with_reducible rename News _ _ _ _ => N'); k_dflt (refine' slice_at (s := ⟨_, _, _, _, _⟩) ?k1 F' N' ?_ ?z; (case k1 => assumption); (case z => assumption); k_whole); intro _ _ _ _ _))
local macro_rules | `(tactic| walk_at "exec While") => `(tactic| (k_here; refine myStop ?_))
local macro_rules | `(tactic| walk_at "truthy ref") => `(tactic| (k_here; (with_reducible show wpAny _ _ (truthy (Value.ref _)) _ _ _); k_dflt (refine' truthy_made ?k1 ?k2 ?k3 ?k4 ?_; (case k1 => k_asm); (case k2 => k_mem); (case k3 => assumption); (case k4 => assumption); k_whole; intro _)))
local macro_rules | `(tactic| walk_at "subscriptTail Name UnaryOp ref int") => `(tactic| (k_here; k_dflt (refine' last_made ?k1 ?k2 ?k3 ?k4 ?k5 ?_; (case k1 => k_asm); (case k2 => k_mem); (case k3 => assumption); (case k4 => assumption); (case k5 => first | rfl | omega); k_whole)))
local macro_rules | `(tactic| walk_at "call builtin:str.replace") => `(tactic| (k_here; k_dflt (show wpAny _ _ (call (Value.builtin "str.replace") [Value.str (Str.mk #[_]) _, Value.str _ _, Value.str _ _]) _ _ _); k_dflt (refine rep_none (by decide +kernel) ?_)))
set_option maxRecDepth 100000 in
set_option maxHeartbeats 0 in
theorem translate_parts {w : World} {p : Program} {loose : List Str} {mean : ExcName → Option Value} {mg mb : Str → Option Value} {dp un : Nat} {gd : Option (List Code)} {cn : Str} {cs : Scope} {a : Addr} {ccd : Value} {cl : List (Str × Addr)} {outer : List Env} {A₀ : Around} {base h₀ : Heap} {L : Addr} {m : Str → Option Value} {news : List (Addr × Obj)} {g : Obj → List (Addr × Obj)} {s : Shared} {Q : Value → Shared → Prop} {toks : List PTok} {tkp tkq : Tok} {star : Addr} {ps0 : Array Value}
  (hok : ∀ t ∈ toks, t.Ok) (hlen : (codesOf toks).length ≤ 10000) (U : UpdF 82 (tabObj ps0) news g) (hg : TabGood ps0)
  (B : Below A₀ base outer h₀) (F : Fr h₀ L s.heap m) (KX : (hd0.heap_1 w.params).In h₀) (N : News h₀ L s.heap news) (T : Top p loose mean mg mb h₀) (hk : cs.kind = .function)
  (hd : dp + 10 < recursionLimit) (hu : un + 80 < cLine)
  (hret : ∀ l its n ps h' tk', Fr h₀ L h' m → News h₀ L h' ((l, listOf its n) :: g (tabObj ps)) → TabGood ps → AllNe l news → PartsAre star its.toList (partsOf toks) → Q (.ref l) {s with heap := h', toks := tk'}) :
   wpAny (model pw w) (ktrTop dp un gd cn cs L a ccd cl outer) (call (.ref 87) [.str (Str.mk (codesOf toks).toArray) tkp, .ref star, .str (Str.ofString ".") tkq]) Q (fun _ _ => False) s := by
  have hxl : (Str.mk (codesOf toks).toArray).length ≤ 10000 := by show (codesOf toks).toArray.size ≤ 10000; simpa using hlen
  have hxs : (Str.mk (codesOf toks).toArray).length ≤ sizeLine := by rw [sizeLine_eq]; omega
  refine wpAny_call ?_
  k_dflt walk_at "MY ENTER"
  k_steps
  rename_i tA l h1 hl h2 tB b h3 tC hlb hb h4 D h5 hbD hlD hD h6 h7 h8 F1 N1
  have hl' : AllNe l news := allNe_mk (allNe_of_lt hl)
  have hgl : NeG l g := fun ps => allNe_g U hl'
  have hgb : NeG b g := fun ps => allNe_g U hb
  have hU : TabU g := fun ps => updF_again U
  have h82l : @Ne Nat 82 l := updF_ne U hl'
  have h82b : @Ne Nat 82 b := updF_ne U hb
  replace hlb : @Ne Nat l b := hlb
  have N2 := news_sub ((b, bndO l) :: (l, listOf #[] 0) :: g (tabObj ps0)) N1 (by rw [← updF_same U]; exact fun q hq => .tail _ hq)
  refine my_while (σ := TSt) (fun c => (b, bndO l) :: (l, listOf c.its c.n) :: g (tabObj c.ps)) (fun c => [(Str.ofString "pat", .str (Str.mk (codesOf toks).toArray) tkp), (Str.ofString "STAR", .ref star), (Str.ofString "QUESTION_MARK", .str (Str.ofString ".") tkq), (Str.ofString "res", .ref l), (Str.ofString "add", .ref b), (Str.ofString "i", .int c.i c.tki), (Str.ofString "n", .int ((Str.mk (codesOf toks).toArray).length : Nat) (tC + 1 + 1 + 1))])
    (fun c => c.pre ++ c.rest = toks ∧ c.i = ((codesOf c.pre).length : Nat) ∧ PartsAre star c.its.toList (partsOf c.pre) ∧ TabGood c.ps) (fun c => c.rest.length) ⟨[], toks, #[], 0, 0, tC + 1, ps0⟩ F1 N2 ?kk ?ki ?turn
  case kk => walk_at "MY FM"
  case ki => exact ⟨rfl, rfl, trivial, hg⟩
  case turn =>
    rintro ⟨pre, rest, its, n, i, tki, ps⟩ u h9 tk9 ⟨hpre, hi, hpa, hps⟩ F3 N3
    dsimp only at hpre hi hpa hps F3 N3 ⊢
    clear F1 N1 N2
    have hsz0 := its_size hpa hpre hlen
    have hsz : its.size ≤ sizeLine := by rw [sizeLine_eq]; omega
    cases rest with
    | nil =>
      rw [List.append_nil] at hpre
      have hin : i = ((Str.mk (codesOf toks).toArray).length : Nat) := by
        rw [hi, hpre]; show _ = (((codesOf toks).toArray.size : Nat) : Int); simp
      k_steps
      all_goals exact hret l its n ps _ _ (by k_asm) (news_sub _ (by k_asm) (fun q hq => .tail _ hq)) hps hl' (by rw [← hpre]; exact hpa)
    | cons t rest =>
      have hc0 : codesOf toks = codesOf pre ++ (t.codes ++ codesOf rest) := by rw [← hpre, codesOf_append, codesOf_cons]
      have hok' : t.Ok := hok t (by rw [← hpre]; exact List.mem_append_right _ (.head _))
      have hpre' : (pre ++ [t]) ++ rest = toks := by rw [← hpre]; simp
      have hi' : i + (t.codes.length : Nat) = ((codesOf (pre ++ [t])).length : Nat) := by rw [hi, codesOf_append, List.length_append]; simp [codesOf]
      have hst := partsOf_snoc pre t
      cases t with
      | lit c =>
        have hA : At (Str.mk (codesOf toks).toArray) i c := at_of hc0 hlen hi
        have hlt := hA.lt
        have hc : c ∈ litS := hok'
        obtain ⟨hc1, hc2, hc3⟩ := lit_ne hc
        k_steps
        refine' my_wend ⟨pre ++ [.lit c], rest, _, _, _, _, _⟩ ?fr ?nw ?led ?fm ?inv ?mu
        case fr => k_asm
        case nw => k_asm
        case led => dsimp only; walk_at "MY LED"
        case fm => dsimp only; walk_at "MY FM"
        case inv => exact ⟨hpre', hi', by rw [hst]; exact hpa.push isPart_str, hps⟩
        case mu => exact Nat.lt_succ_self _
      | star =>
        have hA : At (Str.mk (codesOf toks).toArray) i 42 := at_of hc0 hlen hi
        have hlt := hA.lt
        rcases hpa.last with ⟨he1, he2⟩ | ⟨vs', v, ps', pp, he1, he2, hv⟩
        · have hE : ListTruth its false := by
            have : its = #[] := Array.ext' he1
            rw [this]; rfl
          k_steps
          refine' my_wend ⟨pre ++ [.star], rest, _, _, _, _, _⟩ ?fr ?nw ?led ?fm ?inv ?mu
          case fr => k_asm
          case nw => k_asm
          case led => dsimp only; walk_at "MY LED"
          case fm => dsimp only; walk_at "MY FM"
          case inv => exact ⟨hpre', hi', by rw [hst]; rw [he2] at hpa ⊢; exact hpa.push isPart_star, hps⟩
          case mu => exact Nat.lt_succ_self _
        · have hE : ListTruth its true := by
            unfold ListTruth
            rw [← Array.isEmpty_toList, he1]; simp
          have hL : LastIs its v := by unfold LastIs; rw [he1]; simp
          cases pp with
          | none =>
            obtain rfl : v = .ref star := hv
            k_steps
            refine' my_wend ⟨pre ++ [.star], rest, _, _, _, _, _⟩ ?fr ?nw ?led ?fm ?inv ?mu
            case fr => k_asm
            case nw => k_asm
            case led => dsimp only; walk_at "MY LED"
            case fm => dsimp only; walk_at "MY FM"
            case inv => exact ⟨hpre', hi', by rw [hst]; show PartsAre star _ (if _ then _ else _); rw [if_pos (by rw [he2]; simp)]; exact hpa, hps⟩
            case mu => exact Nat.lt_succ_self _
          | some lp =>
            obtain ⟨tkv, rfl⟩ := hv
            k_steps
            refine' my_wend ⟨pre ++ [.star], rest, _, _, _, _, _⟩ ?fr ?nw ?led ?fm ?inv ?mu
            case fr => k_asm
            case nw => k_asm
            case led => dsimp only; walk_at "MY LED"
            case fm => dsimp only; walk_at "MY FM"
            case inv => exact ⟨hpre', hi', by rw [hst]; show PartsAre star _ (if _ then _ else _); rw [if_neg (by rw [he2]; simp)]; exact hpa.push isPart_star, hps⟩
            case mu => exact Nat.lt_succ_self _
      | q =>
        have hA : At (Str.mk (codesOf toks).toArray) i 63 := at_of hc0 hlen hi
        have hlt := hA.lt
        k_steps
        refine' my_wend ⟨pre ++ [.q], rest, _, _, _, _, _⟩ ?fr ?nw ?led ?fm ?inv ?mu
        case fr => k_asm
        case nw => k_asm
        case led => dsimp only; walk_at "MY LED"
        case fm => dsimp only; walk_at "MY FM"
        case inv => exact ⟨hpre', hi', by rw [hst]; exact hpa.push (isPart_of (l := [46]) (by decide)), hps⟩
        case mu => exact Nat.lt_succ_self _
      | br c =>
        have hA : At (Str.mk (codesOf toks).toArray) i 91 := at_of hc0 hlen hi
        have hA1 : At (Str.mk (codesOf toks).toArray) (i + 1) c := at_of (P := codesOf pre ++ [91]) (R := 93 :: codesOf rest) (by rw [hc0]; simp [PTok.codes]) hlen (by rw [hi]; simp)
        have hA2 : At (Str.mk (codesOf toks).toArray) (i + 1 + 1) 93 := at_of (P := codesOf pre ++ [91, c]) (R := codesOf rest) (by rw [hc0]; simp [PTok.codes]) hlen (by rw [hi]; simp; omega)
        have hlt := hA.lt
        have hlt1 := hA1.lt
        have hlt2 := hA2.lt
        have hi3 : i + 1 + 1 + 1 = ((codesOf (pre ++ [.br c])).length : Nat) := by rw [← hi']; show _ = i + ((3 : Nat) : Int); omega
        rcases hok' with rfl | rfl | rfl
        · k_steps
          refine whl_start 100 ?_
          k_steps
          refine' my_wend ⟨pre ++ [.br 91], rest, _, _, _, _, _⟩ ?fr ?nw ?led ?fm ?inv ?mu
          case fr => k_asm
          case nw => k_asm
          case led => dsimp only; walk_at "MY LED"
          case fm => dsimp only; walk_at "MY FM"
          case inv => exact ⟨hpre', hi3, by rw [hst]; exact hpa.push (isPart_of (l := brT 91) (by decide +kernel)), by assumption⟩
          case mu => exact Nat.lt_succ_self _
        · k_steps
          refine whl_start 100 ?_
          k_steps
          refine' my_wend ⟨pre ++ [.br 42], rest, _, _, _, _, _⟩ ?fr ?nw ?led ?fm ?inv ?mu
          case fr => k_asm
          case nw => k_asm
          case led => dsimp only; walk_at "MY LED"
          case fm => dsimp only; walk_at "MY FM"
          case inv => exact ⟨hpre', hi3, by rw [hst]; exact hpa.push (isPart_of (l := brT 42) (by decide +kernel)), by assumption⟩
          case mu => exact Nat.lt_succ_self _
        · k_steps
          refine whl_start 100 ?_
          k_steps
          refine' my_wend ⟨pre ++ [.br 63], rest, _, _, _, _, _⟩ ?fr ?nw ?led ?fm ?inv ?mu
          case fr => k_asm
          case nw => k_asm
          case led => dsimp only; walk_at "MY LED"
          case fm => dsimp only; walk_at "MY FM"
          case inv => exact ⟨hpre', hi3, by rw [hst]; exact hpa.push (isPart_of (l := brT 63) (by decide +kernel)), by assumption⟩
          case mu => exact Nat.lt_succ_self _
local macro_rules | `(tactic| walk_at "PAD") => `(tactic| fail)
noncomputable def mkS (l : List Nat) : Str := Str.mk l.toArray
theorem mkS_append (a b : List Nat) : mkS a ++ mkS b = mkS (a ++ b) := by
  show Str.mk (a.toArray ++ b.toArray) = Str.mk (a ++ b).toArray
  rw [List.append_toArray]
theorem ofS_empty : Str.ofString "" = mkS [] := by decide
theorem join_mkS : ∀ cs : List (List Nat), Str.join (mkS []) (cs.map mkS) = mkS cs.flatten
  | [] => rfl
  | [c] => by show mkS c = mkS (c ++ []); rw [List.append_nil]
  | c :: d :: r => by
    show mkS c ++ mkS [] ++ Str.join (mkS []) ((d :: r).map mkS) = _
    rw [join_mkS (d :: r), mkS_append, mkS_append, List.append_nil]; rfl
theorem txt_join (cs : List (List Nat)) : Txt.join (Str.ofString "") (cs.map mkS) = mkS cs.flatten := by
  show Builtin.Str.glued _ _ = _
  rw [StrLaws.glued_eq_join, ofS_empty, join_mkS]
theorem sum_mkS : ∀ cs : List (List Nat), ((cs.map mkS).map (·.length)).sum = cs.flatten.length
  | [] => rfl
  | c :: r => by
    rw [List.map_cons, List.map_cons, List.sum_cons, sum_mkS r, List.flatten_cons, List.length_append]
    show c.toArray.size + _ = _
    rw [List.size_toArray]
/-- a list's values are the texts of these codes -/
noncomputable def StrsOf (its : Array Value) (cs : List (List Nat)) : Prop := StrsAre its.toList (cs.map mkS)
theorem StrsOf.nil : StrsOf #[] [] := StrsAre.nil
theorem strsAre_snoc {v : Str} {tk : Tok} : ∀ {vs : List Value} {ys : List Str}, StrsAre vs ys → StrsAre (vs ++ [.str v tk]) (ys ++ [v])
  | _, _, .nil => .cons _ _ .nil
  | _, _, .cons y t h => .cons y t (strsAre_snoc h)
theorem StrsOf.push {its : Array Value} {cs : List (List Nat)} {x : Str} {tk : Tok} {c : List Nat} (h : StrsOf its cs) (hx : x = mkS c) : StrsOf (its.push (.str x tk)) (cs ++ [c]) := by
  unfold StrsOf
  rw [Array.toList_push, List.map_append, hx]
  exact strsAre_snoc h
theorem StrsOf.size {its : Array Value} {cs : List (List Nat)} (h : StrsOf its cs) : its.size = cs.length := by
  have := StrsAre.len_eq h
  rw [List.length_map, Array.length_toList] at this
  exact this
noncomputable def LAt (its : Array Value) (i : Int) (v : Value) : Prop := 0 ≤ i ∧ i < 2 ^ 62 ∧ its[i.toNat]? = some v
theorem LAt.lt {its : Array Value} {i : Int} {v : Value} (h : LAt its i v) : i < its.size := by
  obtain ⟨h3, _⟩ := Array.getElem?_eq_some_iff.mp h.2.2
  have := h.1
  omega
theorem lat_of {its : Array Value} {A B : List Value} {v : Value} (h : its.toList = A ++ v :: B) (hz : its.size ≤ 10000) {i : Int} (hi : i = (A.length : Nat)) : LAt its i v := by
  have hl : A.length < its.size := by rw [← Array.length_toList, h]; simp
  refine ⟨by omega, by omega, ?_⟩
  have e : i.toNat = A.length := by omega
  rw [e, ← Array.getElem?_toList, h]
  simp
section
variable {w : World} {A : Around} {E Q : Value → Shared → Prop} {s : Shared} {h₀ : Heap} {L l : Addr} {m : Str → Option Value} {news : List (Addr × Obj)} {its : Array Value} {n : Nat} {value slice : PySem.Expr} {k : Int} {t : Tok} {v : Value} {cs : List (List Nat)}
theorem litem_at (N : News h₀ L s.heap news) (hm : (l, listOf its n) ∈ news) (hv : LAt its k v) (h : Q v s)
    (hs : subscripted slice false (.ref l) (.int k t) = operate [.ref l, .int k t] (getItem (.ref l) (.int k t)) := by with_unfolding_all rfl) (hg : ∀ r, letTemporaryGo value (.ref l) r = pure () := by intro _; with_unfolding_all rfl) :
    wpAny (model pw w) A (subscriptTail value slice (.ref l) (.int k t)) Q E s :=
  item_list (isList_made N hm) hv.1 (by have := hv.2.1; omega) hv.2.2 h hs hg
theorem llen_at (N : News h₀ L s.heap news) (hm : (l, listOf its n) ∈ news) (hz : its.size ≤ sizeLine) (h : Q (.int its.size (s.toks + 1)) { s with toks := s.toks + 1 + 1 }) :
    wpAny (model pw w) A (call (.builtin "len") [.ref l]) Q E s := PyProof.Rows.len_list (isList_made N hm) (by rw [sizeLine_eq] at hz; omega) h
theorem join_at (N : News h₀ L s.heap news) (hm : (l, listOf its n) ∈ news) (hs : StrsOf its cs) (hz : cs.flatten.length ≤ 1000000) (h : ∀ t' k, Q (.str (mkS cs.flatten) t') { s with toks := k }) :
    wpAny (model pw w) A (call (.builtin "str.join") [.str (Str.ofString "") t, .ref l]) Q E s := by
  refine join_list (isList_made N hm) hs ?_ fun t' k => ?_
  · rw [sum_mkS, show (Str.ofString "").length = 0 by decide]; omega
  · rw [txt_join]; exact h t' k
end
/- loops whose exits meet -/
noncomputable def WExit {σ : Type} (h₀ : Heap) (L : Addr) (s : Shared) (Led : σ → List (Addr × Obj)) (fm : σ → List (Str × Value)) (D : σ → Prop) (s₂ : Shared) : Prop :=
  ∃ (c' : σ) (h' : Heap) (tk : Nat) (m' : Str → Option Value) (news' : List (Addr × Obj)), s₂ = { s with heap := h', toks := tk } ∧ Fr h₀ L h' m' ∧ News h₀ L h' news' ∧ (∀ p ∈ Led c', p ∈ news') ∧ (∀ p ∈ fm c', m' p.1 = some p.2) ∧ D c'
noncomputable def WQ {σ : Type} (h₀ : Heap) (L : Addr) (s : Shared) (Led : σ → List (Addr × Obj)) (fm : σ → List (Str × Value)) (D : σ → Prop) (Q : Flow → Shared → Prop) (f : Flow) (s₂ : Shared) : Prop := match f with
  | .ret v => Q (.ret v) s₂
  | .next => WExit h₀ L s Led fm D s₂
  | _ => False
theorem my_wexit {σ : Type} {h₀ : Heap} {L : Addr} {s : Shared} {Led : σ → List (Addr × Obj)} {fm : σ → List (Str × Value)} {D : σ → Prop} {Q : Flow → Shared → Prop} {h' : Heap} {tk : Nat} {m' : Str → Option Value} {news' : List (Addr × Obj)} (c' : σ)
    (F' : Fr h₀ L h' m') (N' : News h₀ L h' news') (led : ∀ p ∈ Led c', p ∈ news') (hfm : ∀ p ∈ fm c', m' p.1 = some p.2) (hD : D c') :
    WQ h₀ L s Led fm D Q .next { s with heap := h', toks := tk } := ⟨c', h', tk, m', news', rfl, F', N', led, hfm, hD⟩
theorem my_wbrk {σ : Type} {h₀ : Heap} {L : Addr} {s : Shared} {Led : σ → List (Addr × Obj)} {fm : σ → List (Str × Value)} {I D : σ → Prop} {μ : σ → Nat} {Q : Flow → Shared → Prop} {c : σ} {h' : Heap} {tk : Nat} {m' : Str → Option Value} {news' : List (Addr × Obj)} (c' : σ)
    (F' : Fr h₀ L h' m') (N' : News h₀ L h' news') (led : ∀ p ∈ Led c', p ∈ news') (hfm : ∀ p ∈ fm c', m' p.1 = some p.2) (hD : D c') :
    WPost h₀ L s Led fm I μ (WQ h₀ L s Led fm D Q) c .brk { s with heap := h', toks := tk } := my_wexit (Q := Q) c' F' N' led hfm hD
theorem my_while2 {σ : Type} {prog : Program} {w : World} {A : Around} {E : Value → Shared → Prop} {Q : Flow → Shared → Prop} {s : Shared} {env : Env} {h₀ : Heap} {L : Addr} {test : PySem.Expr} {body : List Stmt} {pos : Pos} {m₀ : Str → Option Value}
    (Led : σ → List (Addr × Obj)) (fm : σ → List (Str × Value)) (I D : σ → Prop) (μ : σ → Nat) (c₀ : σ)
    (F : Fr h₀ L s.heap m₀) (N : News h₀ L s.heap (Led c₀)) (hk : ∀ p ∈ fm c₀, m₀ p.1 = some p.2) (hp : I c₀)
    (turn : ∀ (c : σ) (u : Str → Option Value) h tk, I c → Fr h₀ L h (kstB u (fm c)) → News h₀ L h (Led c) →
      wpAny (model prog w) A (isTrue test env (eval test env)) (fun b s₂ =>
        if b = true then wpAny (model prog w) A (execs body env) (WPost h₀ L s Led fm I μ (WQ h₀ L s Led fm D Q) c) E s₂ else WQ h₀ L s Led fm D Q .next s₂) E { s with heap := h, toks := tk })
    (fin : ∀ (c : σ) (u : Str → Option Value) h tk, D c → Fr h₀ L h (kstB u (fm c)) → News h₀ L h (Led c) → Q .next { s with heap := h, toks := tk })
    (hE : PassesOwn (model prog w) A env E := by passes_own) :
    wpAny (model prog w) A (exec (.While test body [] pos) env) Q E s := by
  refine wpAny_mono (my_while (Q := WQ h₀ L s Led fm D Q) Led fm I μ c₀ F N hk hp turn hE) (fun f s₂ h => ?_) fun _ _ x => x
  have ex : WExit h₀ L s Led fm D s₂ → Q .next s₂ := by
    rintro ⟨c', h', tk, m', news', rfl, F', N', led, hfm, hD⟩
    exact fin c' m' h' tk hD (by rw [kstB_same hfm]; exact F') (news_sub _ N' led)
  cases f with
  | ret v => exact h
  | next => exact ex h
  | brk => exact h.elim
  | cont => exact h.elim
theorem mkS_length (l : List Nat) : (mkS l).length = l.length := by show l.toArray.size = _; rw [List.size_toArray]
local macro_rules | `(tactic| walk_at "call builtin:len") => `(tactic| (k_here; (with_reducible show wpAny _ _ (call (Value.builtin "len") [Value.ref _]) _ _ _); k_dflt (refine' llen_at ?k1 ?k2 ?k3 ?_; (case k1 => k_asm); (case k2 => k_mem); (case k3 => assumption); k_whole)))
local macro_rules | `(tactic| walk_at "subscriptTail Name Name ref int") => `(tactic| (k_here; k_dflt (refine' litem_at ?k1 ?k2 ?k3 ?_; (case k1 => k_asm); (case k2 => k_mem); (case k3 => assumption); k_whole)))
local macro_rules | `(tactic| walk_at "call builtin:str.join") => `(tactic| (k_here; (with_reducible show wpAny _ _ (call (Value.builtin "str.join") [Value.str _ _, Value.ref _]) _ _ _); k_dflt (refine' join_at ?k1 ?k2 ?k3 ?k4 ?_; (case k1 => k_asm); (case k2 => k_mem); (case k3 => assumption); (case k4 => assumption); k_whole); intro _ _))
noncomputable abbrev Grp := List (List Nat)
noncomputable def tailG (gs : List Grp) : List PPart := gs.flatMap fun g => none :: g.map some
noncomputable def partsG (g0 : Grp) (gs : List Grp) : List PPart := g0.map some ++ tailG gs
noncomputable def GoodG : List Grp → Prop
  | [] => True
  | [_] => True
  | g :: g' :: r => g ≠ [] ∧ GoodG (g' :: r)
noncomputable def mids : List (List Nat) → List Nat
  | [] => []
  | [r] => [46, 42] ++ r
  | r :: r' :: rs => [40, 63, 62, 46, 42, 63] ++ r ++ [41] ++ mids (r' :: rs)
noncomputable def render (r0 : List Nat) (rs : List (List Nat)) : List Nat := [40, 63, 115, 58] ++ (r0 ++ mids rs) ++ [41, 92, 90]
theorem partsAre_split {star : Addr} {p : PPart} {R : List PPart} : ∀ {P : List PPart} {vs : List Value}, PartsAre star vs (P ++ p :: R) → ∃ A v B, vs = A ++ v :: B ∧ A.length = P.length ∧ IsPart star v p
  | [], [], h => h.elim
  | [], v :: vs, h => ⟨[], v, vs, rfl, rfl, h.1⟩
  | q :: P, [], h => h.elim
  | q :: P, w :: vs, h => by
    obtain ⟨A, v, B, e, e2, e3⟩ := partsAre_split (P := P) h.2
    exact ⟨w :: A, v, B, by rw [e]; rfl, by rw [List.length_cons, List.length_cons, e2], e3⟩
theorem part_at {star : Addr} {its : Array Value} {parts P R : List PPart} {p : PPart} (h : PartsAre star its.toList parts) (e : parts = P ++ p :: R) (hz : its.size ≤ 10000) {i : Int} (hi : i = (P.length : Nat)) : ∃ v, LAt its i v ∧ IsPart star v p := by
  rw [e] at h
  obtain ⟨A, v, B, e1, e2, e3⟩ := partsAre_split h
  exact ⟨v, lat_of e1 hz (by rw [hi, e2]), e3⟩
theorem parts_size {star : Addr} {its : Array Value} {parts : List PPart} (h : PartsAre star its.toList parts) : its.size = parts.length := by
  rw [← h.length, Array.length_toList]
structure JS1 where
  pre : Grp
  rest : Grp
  rits : Array Value
  n : Nat
  i : Int
  tki : Tok
structure JS2 where
  don : List Grp
  rem : List Grp
  rits : Array Value
  out : Grp
  n : Nat
  i : Int
  tki : Tok
set_option maxRecDepth 100000 in
set_option maxHeartbeats 0 in
theorem join_parts {w : World} {p : Program} {loose : List Str} {mean : ExcName → Option Value} {mg mb : Str → Option Value} {dp un : Nat} {gd : Option (List Code)} {cn : Str} {cs : Scope} {a : Addr} {ccd : Value} {cl : List (Str × Addr)} {outer : List Env} {A₀ : Around} {base h₀ : Heap} {L : Addr} {m : Str → Option Value} {news : List (Addr × Obj)} {s : Shared} {Q : Value → Shared → Prop} {star linp : Addr} {its : Array Value} {n0 : Nat} {g0 : Grp} {gs : List Grp}
  (hpa : PartsAre star its.toList (partsG g0 gs)) (hgood : GoodG gs) (hz : its.size ≤ 10000) (htot : (g0.flatten ++ mids (gs.map List.flatten)).length ≤ 100000) (hgl : ∀ g ∈ gs, g.flatten.length ≤ 100000) (hm : (linp, listOf its n0) ∈ news)
  (B : Below A₀ base outer h₀) (F : Fr h₀ L s.heap m) (KX : (hd0.heap_1 w.params).In h₀) (N : News h₀ L s.heap news) (T : Top p loose mean mg mb h₀) (hk : cs.kind = .function)
  (hd : dp + 10 < recursionLimit) (hu : un + 80 < cLine)
  (hret : ∀ t h' tk', Fr h₀ L h' m → News h₀ L h' news → Q (.str (mkS (render g0.flatten (gs.map List.flatten))) t) {s with heap := h', toks := tk'}) :
   wpAny (model pw w) (ktrTop dp un gd cn cs L a ccd cl outer) (call (.ref 94) [.ref linp, .ref star]) Q (fun _ _ => False) s := by
  have hz' : its.size ≤ sizeLine := by rw [sizeLine_eq]; omega
  refine wpAny_call ?_
  k_dflt walk_at "MY ENTER"
  k_steps
  rename_i tA l h1 hl h2 tB b h3 tC hlb hb h4 D h5 hbD hlD hD h6 h7 h8 F1 N1
  replace hlb : @Ne Nat l b := hlb
  have N2 := news_sub ((b, bndO l) :: (l, listOf #[] 0) :: news) N1 (fun q hq => .tail _ hq)
  refine my_while2 (σ := JS1) (fun c => (b, bndO l) :: (l, listOf c.rits c.n) :: news) (fun c => [(Str.ofString "inp", .ref linp), (Str.ofString "STAR", .ref star), (Str.ofString "res", .ref l), (Str.ofString "add", .ref b), (Str.ofString "i", .int c.i c.tki), (Str.ofString "n", .int (its.size : Nat) (tC + 1 + 1 + 1))])
    (fun c => c.pre ++ c.rest = g0 ∧ c.i = (c.pre.length : Nat) ∧ StrsOf c.rits c.pre) (fun c => c.i = (g0.length : Nat) ∧ StrsOf c.rits g0) (fun c => c.rest.length) ⟨[], g0, #[], 0, 0, tC + 1⟩ F1 N2 ?kk ?ki ?turn ?fin
  case kk => walk_at "MY FM"
  case ki => exact ⟨rfl, rfl, StrsOf.nil⟩
  case turn =>
    rintro ⟨pre, rest, rits, n, i, tki⟩ u h9 tk9 ⟨hpre, hi, hst⟩ F3 N3
    dsimp only at hpre hi hst F3 N3 ⊢
    clear F1 N1 N2
    have hsz0 := hst.size
    have hps := parts_size hpa
    have hpl : pre.length ≤ its.size := by rw [hps]; unfold partsG; rw [List.length_append, List.length_map, ← hpre, List.length_append]; omega
    have hsz : rits.size ≤ sizeLine := by rw [sizeLine_eq]; omega
    cases rest with
    | nil =>
      rw [List.append_nil] at hpre
      subst hpre
      cases gs with
      | nil =>
        have hin : i = (its.size : Nat) := by rw [hi, hps]; unfold partsG tailG; simp
        k_steps
        all_goals refine' my_wexit ⟨pre, [], rits, n, i, tki⟩ ?fr ?nw ?led ?fm ?inv
        case fr => k_asm
        case nw => k_asm
        case led => dsimp only; walk_at "MY LED"
        case fm => dsimp only; walk_at "MY FM"
        case inv => exact ⟨hi, hst⟩
      | cons g gs =>
        obtain ⟨v, hA, hv⟩ := part_at (P := pre.map some) (p := none) (R := g.map some ++ tailG gs) hpa (by unfold partsG tailG; simp) hz (i := i) (by rw [hi, List.length_map])
        obtain rfl : v = .ref star := hv
        have hlt := hA.lt
        k_steps
        all_goals refine' my_wexit ⟨pre, [], rits, n, i, tki⟩ ?fr ?nw ?led ?fm ?inv
        case fr => k_asm
        case nw => k_asm
        case led => dsimp only; walk_at "MY LED"
        case fm => dsimp only; walk_at "MY FM"
        case inv => exact ⟨hi, hst⟩
    | cons c rest =>
      have hpre' : (pre ++ [c]) ++ rest = g0 := by rw [← hpre]; simp
      obtain ⟨v, hA, hv⟩ := part_at (P := pre.map some) (p := some c) (R := rest.map some ++ tailG gs) hpa (by unfold partsG; rw [← hpre]; simp) hz (i := i) (by rw [hi, List.length_map])
      obtain ⟨tkv, rfl⟩ := hv
      have hlt := hA.lt
      k_steps
      refine' my_wend ⟨pre ++ [c], rest, _, _, _, _⟩ ?fr ?nw ?led ?fm ?inv ?mu
      case fr => k_asm
      case nw => k_asm
      case led => dsimp only; walk_at "MY LED"
      case fm => dsimp only; walk_at "MY FM"
      case inv => exact ⟨hpre', by rw [hi]; simp, hst.push rfl⟩
      case mu => exact Nat.lt_succ_self _
  case fin =>
    rintro ⟨pre, rest, rits, n, i, tki⟩ u h9 tk9 ⟨hi, hst⟩ F3 N3
    dsimp only at hi hst F3 N3 ⊢
    clear F1 N1 N2
    k_steps
    refine my_while2 (σ := JS2) (fun c => (b, bndO l) :: (l, listOf c.rits c.n) :: news) (fun c => [(Str.ofString "inp", .ref linp), (Str.ofString "STAR", .ref star), (Str.ofString "res", .ref l), (Str.ofString "add", .ref b), (Str.ofString "i", .int c.i c.tki), (Str.ofString "n", .int (its.size : Nat) (tC + 1 + 1 + 1))])
      (fun c => c.don ++ c.rem = gs ∧ c.i = ((partsG g0 c.don).length : Nat) ∧ StrsOf c.rits c.out ∧ c.out.flatten ++ mids (c.rem.map List.flatten) = g0.flatten ++ mids (gs.map List.flatten) ∧ GoodG c.rem ∧ c.rits.size ≤ 2 * c.i.toNat + 2)
      (fun c => StrsOf c.rits c.out ∧ c.out.flatten = g0.flatten ++ mids (gs.map List.flatten) ∧ c.i = (its.size : Nat)) (fun c => c.rem.length) ⟨[], gs, rits, g0, n, i, tki⟩ F3 N3 ?kk ?ki ?turn ?fin
    case kk => walk_at "MY FM"
    case ki => exact ⟨rfl, by rw [hi]; unfold partsG tailG; simp, hst, rfl, hgood, by have := hst.size; dsimp only; omega⟩
    case turn =>
      clear F3 N3 hi hst
      clear i rits n tki pre rest
      rintro ⟨don, rem, rits, out, n, i, tki⟩ u2 h19 tk19 ⟨hdr, hi, hst, heq, hgr, hrs⟩ F3 N3
      dsimp only at hdr hi hst heq hgr hrs F3 N3 ⊢
      have hps := parts_size hpa
      have hpl : partsG g0 gs = partsG g0 don ++ tailG rem := by unfold partsG tailG; rw [← hdr]; simp
      have hil : (partsG g0 don).length + (tailG rem).length = its.size := by rw [hps, hpl, List.length_append]
      have hsz : rits.size ≤ sizeLine := by rw [sizeLine_eq]; omega
      cases rem with
      | nil =>
        have hin : i = (its.size : Nat) := by rw [hi, ← hil]; simp [tailG]
        k_steps
        refine' my_wexit ⟨don, [], rits, out, n, i, tki⟩ ?fr ?nw ?led ?fm ?inv
        case fr => k_asm
        case nw => k_asm
        case led => dsimp only; walk_at "MY LED"
        case fm => dsimp only; walk_at "MY FM"
        case inv => exact ⟨hst, by rw [← heq]; simp [mids], hin⟩
      | cons g rem =>
        obtain ⟨v, hA, hv⟩ := part_at (P := partsG g0 don) (p := none) (R := g.map some ++ tailG rem) hpa (by rw [hpl]; simp [tailG]) hz (i := i) hi
        obtain rfl : v = .ref star := hv
        have hlt := hA.lt
        cases g with
        | nil =>
          obtain rfl : rem = [] := by
            cases rem with
            | nil => rfl
            | cons g2 r2 => exact absurd rfl hgr.1
          have hin : i + 1 = (its.size : Nat) := by rw [hi, ← hil]; simp [tailG]
          k_steps
          dsimp only
          refine' my_wbrk ⟨don, [], _, out ++ [[46, 42]], _, _, _⟩ ?fr ?nw ?led ?fm ?inv
          case fr => k_asm
          case nw => k_asm
          case led => dsimp only; walk_at "MY LED"
          case fm => dsimp only; walk_at "MY FM"
          case inv => exact ⟨hst.push (by decide), by rw [← heq]; simp [mids], hin⟩
        | cons c g =>
          obtain ⟨v1, hA1, hv1⟩ := part_at (P := partsG g0 don ++ [none]) (p := some c) (R := g.map some ++ tailG rem) hpa (by rw [hpl]; simp [tailG]) hz (i := i + 1) (by rw [hi]; simp)
          obtain ⟨tkv, rfl⟩ := hv1
          have hlt1 := hA1.lt
          k_steps
          rename_i h20 tkA lf h21 hbf hlf hlfn h22 F4 N4
          have hlfb : @Ne Nat lf b := by omega
          have hlfl : @Ne Nat lf l := by omega
          have hgmem : (c :: g) ∈ gs := by rw [← hdr]; simp
          have hgfl : (c :: g).flatten.length ≤ 1000000 := by have := hgl _ hgmem; omega
          have hgfl2 : (mkS (c :: g).flatten).length ≤ 1000000 := by rw [mkS_length]; exact hgfl
          have hbase : i = ((partsG g0 don).length : Nat) := hi
          have hil2 : (partsG g0 don).length + (1 + (g.length + 1) + (tailG rem).length) = its.size := by rw [← hil]; simp [tailG]; omega
          refine my_while2 (σ := JS1) (fun c => (lf, listOf c.rits c.n) :: (b, bndO l) :: (l, listOf rits n) :: news) (fun c => [(Str.ofString "inp", .ref linp), (Str.ofString "STAR", .ref star), (Str.ofString "res", .ref l), (Str.ofString "add", .ref b), (Str.ofString "fixed", .ref lf), (Str.ofString "i", .int c.i c.tki), (Str.ofString "n", .int (its.size : Nat) (tC + 1 + 1 + 1))])
            (fun d => d.pre ++ d.rest = c :: g ∧ d.i = i + 1 + (d.pre.length : Nat) ∧ StrsOf d.rits d.pre) (fun d => d.i = i + 1 + ((c :: g).length : Nat) ∧ StrsOf d.rits (c :: g)) (fun d => d.rest.length) ⟨[], c :: g, #[], 0, i + 1, tk19 + 1⟩ F4 N4 ?kkb ?kib ?turnb ?finb
          case kkb => walk_at "MY FM"
          case kib => exact ⟨rfl, by simp, StrsOf.nil⟩
          case turnb =>
            rintro ⟨pre, rest, fits, nf, i3, tki3⟩ u3 h29 tk29 ⟨hpre, hi3, hst3⟩ F5 N5
            dsimp only at hpre hi3 hst3 F5 N5 ⊢
            clear F4 N4
            have hsz3 := hst3.size
            have hpl3 : pre.length ≤ its.size := by
              have : (c :: g).length ≤ its.size := by rw [List.length_cons]; omega
              rw [← hpre, List.length_append] at this; omega
            have hsz4 : fits.size ≤ sizeLine := by rw [sizeLine_eq]; omega
            cases rest with
            | nil =>
              rw [List.append_nil] at hpre
              subst hpre
              cases rem with
              | nil =>
                have hin : i3 = (its.size : Nat) := by rw [hi3, hbase, ← hil2]; simp [tailG]; omega
                k_steps
                all_goals refine' my_wexit ⟨c :: g, [], fits, nf, i3, tki3⟩ ?frb ?nwb ?ledb ?fmb ?invb
                case frb => k_asm
                case nwb => k_asm
                case ledb => dsimp only; walk_at "MY LED"
                case fmb => dsimp only; walk_at "MY FM"
                case invb => exact ⟨hi3, hst3⟩
              | cons g2 rem =>
                obtain ⟨v3, hA3, hv3⟩ := part_at (P := partsG g0 don ++ none :: (c :: g).map some) (p := none) (R := g2.map some ++ tailG rem) hpa (by rw [hpl]; simp [tailG]) hz (i := i3) (by rw [hi3, hbase]; simp; omega)
                obtain rfl : v3 = .ref star := hv3
                have hlt3 := hA3.lt
                k_steps
                all_goals refine' my_wexit ⟨c :: g, [], fits, nf, i3, tki3⟩ ?frb ?nwb ?ledb ?fmb ?invb
                case frb => k_asm
                case nwb => k_asm
                case ledb => dsimp only; walk_at "MY LED"
                case fmb => dsimp only; walk_at "MY FM"
                case invb => exact ⟨hi3, hst3⟩
            | cons c3 rest =>
              have hpre' : (pre ++ [c3]) ++ rest = c :: g := by rw [← hpre]; simp
              obtain ⟨v3, hA3, hv3⟩ := part_at (P := partsG g0 don ++ none :: pre.map some) (p := some c3) (R := rest.map some ++ tailG rem) hpa (by rw [hpl, ← hpre]; simp [tailG]) hz (i := i3) (by rw [hi3, hbase]; simp; omega)
              obtain ⟨tkv3, rfl⟩ := hv3
              have hlt3 := hA3.lt
              k_steps
              refine' my_wend ⟨pre ++ [c3], rest, _, _, _, _⟩ ?frb ?nwb ?ledb ?fmb ?invb ?mub
              case frb => k_asm
              case nwb => k_asm
              case ledb => dsimp only; walk_at "MY LED"
              case fmb => dsimp only; walk_at "MY FM"
              case invb => exact ⟨hpre', by rw [hi3]; simp; omega, hst3.push rfl⟩
              case mub => exact Nat.lt_succ_self _
          case finb =>
            rintro ⟨pre, rest, fits, nf, i3, tki3⟩ u3 h29 tk29 ⟨hi3, hst3⟩ F5 N5
            dsimp only at hi3 hst3 F5 N5 ⊢
            clear F4 N4
            clear pre rest
            rw [List.length_cons] at hi3
            cases rem with
            | nil =>
              have hin : i3 = (its.size : Nat) := by rw [hi3, hbase, ← hil2]; simp [tailG]; omega
              have hsz5 : rits.size + 2 ≤ sizeLine := by rw [sizeLine_eq]; omega
              k_steps
              refine' my_wend ⟨don ++ [c :: g], [], _, out ++ [[46, 42]] ++ [(c :: g).flatten], _, _, _⟩ ?frb ?nwb ?ledb ?fmb ?invb ?mub
              case frb => k_asm
              case nwb => k_asm
              case ledb => dsimp only; walk_at "MY LED"
              case fmb => dsimp only; walk_at "MY FM"
              case invb => exact ⟨by rw [← hdr]; simp, by rw [hin, ← hil]; simp [partsG, tailG]; omega, (hst.push (by decide)).push rfl, by rw [← heq]; simp [mids], trivial, by simp; omega⟩
              case mub => exact Nat.lt_succ_self _
            | cons g2 rem =>
              have hin : i3 < (its.size : Nat) := by
                have : 1 ≤ (tailG (g2 :: rem)).length := by simp [tailG]
                rw [hi3, hbase, ← hil2]; omega
              k_steps
              refine' my_wend ⟨don ++ [c :: g], g2 :: rem, _, out ++ [[40, 63, 62, 46, 42, 63] ++ (c :: g).flatten ++ [41]], _, _, _⟩ ?frb ?nwb ?ledb ?fmb ?invb ?mub
              case frb => k_asm
              case nwb => k_asm
              case ledb => dsimp only; walk_at "MY LED"
              case fmb => dsimp only; walk_at "MY FM"
              case invb => exact ⟨by rw [← hdr]; simp, by rw [hi3, hbase]; simp [partsG, tailG]; omega, hst.push (by rw [show Str.empty ++ Str.ofString "(?>.*?" = mkS [40, 63, 62, 46, 42, 63] by decide, show Str.ofString ")" = mkS [41] by decide, mkS_append, mkS_append]), by rw [← heq]; simp [mids], hgr.2, by simp; omega⟩
              case mub => exact Nat.lt_succ_self _
    case fin =>
      clear F3 N3 hi hst
      clear i rits n tki pre rest
      rintro ⟨don, rem, rits, out, n, i, tki⟩ u2 h19 tk19 ⟨hst, heq, hi⟩ F3 N3
      dsimp only at hst heq hi F3 N3 ⊢
      have hfl : out.flatten.length ≤ 1000000 := by rw [heq]; omega
      have hfl2 : (mkS out.flatten).length ≤ 1000000 := by rw [mkS_length]; exact hfl
      have hfl3 : (mkS out.flatten).length ≤ sizeLine := by rw [sizeLine_eq]; omega
      have e : Str.empty ++ Str.ofString "(?s:" ++ mkS out.flatten ++ Str.ofString ")\\Z" = mkS (render g0.flatten (gs.map List.flatten)) := by
        rw [heq]
        unfold render
        rw [show Str.empty ++ Str.ofString "(?s:" = mkS [40, 63, 115, 58] by decide, show Str.ofString ")\\Z" = mkS [41, 92, 90] by decide, mkS_append, mkS_append]
      k_steps
      rw [e]
      refine hret _ _ _ ?kF ?kN
      case kF => k_asm
      case kN => exact news_sub _ (by k_asm) (fun q hq => by first | exact hq | exact .tail _ hq | exact .tail _ (.tail _ hq) | exact .tail _ (.tail _ (.tail _ hq)))
local macro_rules | `(tactic| walk_at "PAD") => `(tactic| fail)
noncomputable def tokItem : PTok → PPart
  | .lit c => some (escC c)
  | .star => none
  | .q => some [46]
  | .br c => some (brT c)
noncomputable def dedS (ps : List PPart) : PPart → List PPart
  | none => if ps.getLast? = some none then ps else ps ++ [none]
  | some l => ps ++ [some l]
noncomputable def ded (is : List PPart) : List PPart := is.foldl dedS []
theorem partsOf_ded (ts : List PTok) : partsOf ts = ded (ts.map tokItem) := by
  have h : ∀ (ts : List PTok) (ps : List PPart), ts.foldl partStep ps = (ts.map tokItem).foldl dedS ps := by
    intro ts
    induction ts with
    | nil => intro ps; rfl
    | cons t r ih =>
      intro ps
      rw [List.foldl_cons, List.map_cons, List.foldl_cons, ih]
      congr 1
      cases t <;> rfl
  exact h ts []
theorem ded_snoc (is : List PPart) (i : PPart) : ded (is ++ [i]) = dedS (ded is) i := by
  unfold ded; rw [List.foldl_append]; rfl
theorem ded_last : ∀ is : List PPart, (ded is).getLast? = some none ↔ is.getLast? = some none := by
  intro is
  rcases List.eq_nil_or_concat is with rfl | ⟨r, i, rfl⟩
  · exact Iff.rfl
  · rw [List.concat_eq_append, ded_snoc]
    cases i with
    | none =>
      unfold dedS
      by_cases h : (ded r).getLast? = some none
      · simp [h]
      · simp [h]
    | some l => simp [dedS]
noncomputable def splitG : List PPart → Grp × List Grp
  | [] => ([], [])
  | none :: r => ([], (splitG r).1 :: (splitG r).2)
  | some l :: r => (l :: (splitG r).1, (splitG r).2)
theorem splitG_parts : ∀ P : List PPart, P = partsG (splitG P).1 (splitG P).2
  | [] => rfl
  | none :: r => by
    conv => lhs; rw [splitG_parts r]
    simp [splitG, partsG, tailG]
  | some l :: r => by
    conv => lhs; rw [splitG_parts r]
    simp [splitG, partsG, tailG]
noncomputable def NoTwo : List PPart → Prop
  | [] => True
  | [_] => True
  | a :: b :: r => ¬ (a = none ∧ b = none) ∧ NoTwo (b :: r)
theorem noTwo_snoc {i : PPart} : ∀ {P : List PPart}, NoTwo P → ¬ (P.getLast? = some none ∧ i = none) → NoTwo (P ++ [i])
  | [], _, _ => trivial
  | [a], _, h => ⟨fun ⟨x, y⟩ => h ⟨by rw [x]; rfl, y⟩, trivial⟩
  | a :: b :: r, h, h' => ⟨h.1, noTwo_snoc (P := b :: r) h.2 (fun x => h' ⟨by rw [← x.1]; rfl, x.2⟩)⟩
theorem ded_noTwo (is : List PPart) : NoTwo (ded is) := by
  have h : ∀ (is ps : List PPart), NoTwo ps → NoTwo (is.foldl dedS ps) := by
    intro is
    induction is with
    | nil => intro ps h; exact h
    | cons i r ih =>
      intro ps h
      refine ih _ ?_
      cases i with
      | none =>
        show NoTwo (if ps.getLast? = some none then ps else ps ++ [none])
        split
        · exact h
        · rename_i hne
          exact noTwo_snoc h (fun x => hne x.1)
      | some l => exact noTwo_snoc h (fun x => by cases x.2)
  exact h is [] trivial
theorem splitG_good : ∀ P : List PPart, NoTwo P → GoodG (splitG P).2 ∧ ((splitG P).2 ≠ [] → (splitG P).1 = [] → P.head? = some none)
  | [], _ => ⟨trivial, fun h => absurd rfl h⟩
  | [none], _ => ⟨trivial, fun _ _ => rfl⟩
  | [some l], _ => ⟨trivial, fun _ h => by cases h⟩
  | none :: b :: r, h => by
    obtain ⟨h1, h2⟩ := splitG_good (b :: r) h.2
    refine ⟨?_, fun _ _ => rfl⟩
    show GoodG ((splitG (b :: r)).1 :: (splitG (b :: r)).2)
    cases hs : (splitG (b :: r)).2 with
    | nil => trivial
    | cons g gs =>
      rw [hs] at h1 h2
      refine ⟨fun he => ?_, h1⟩
      have := h2 (by simp) he
      have hb : b = none := by simpa using this
      exact h.1 ⟨rfl, hb⟩
  | some l :: b :: r, h => by
    obtain ⟨h1, h2⟩ := splitG_good (b :: r) h.2
    exact ⟨h1, fun _ he => by cases he⟩
/-- the runs between the stars -/
noncomputable def runs (is : List PPart) : List (List Nat) := (splitG (ded is)).1.flatten :: (splitG (ded is)).2.map List.flatten
noncomputable def rend (is : List PPart) : List Nat := render ((runs is).headD []) (runs is).tail
theorem mids_length : ∀ rs : List (List Nat), (mids rs).length ≤ rs.flatten.length + 7 * rs.length
  | [] => by simp [mids]
  | [r] => by simp [mids]; try omega
  | r :: r' :: rs => by
    have := mids_length (r' :: rs)
    simp only [mids, List.flatten_cons, List.length_append, List.length_cons, List.length_nil] at this ⊢
    omega
noncomputable def pLen (P : List PPart) : Nat := (P.map fun p => (p.getD []).length).sum
theorem splitG_len : ∀ P : List PPart, (splitG P).1.flatten.length + ((splitG P).2.map List.flatten).flatten.length = pLen P ∧ (splitG P).2.length ≤ P.length
  | [] => ⟨rfl, Nat.le_refl _⟩
  | none :: r => by
    obtain ⟨h, h2⟩ := splitG_len r
    refine ⟨?_, by simp [splitG]; exact h2⟩
    simp only [splitG, pLen, List.flatten_nil, List.map_cons, List.flatten_cons, List.length_append, List.length_nil, Option.getD, List.sum_cons] at h ⊢
    omega
  | some l :: r => by
    obtain ⟨h, h2⟩ := splitG_len r
    refine ⟨?_, by simp [splitG]; omega⟩
    simp only [splitG, pLen, List.map_cons, List.flatten_cons, List.length_append, Option.getD, List.sum_cons] at h ⊢
    omega
theorem pLen_append (P R : List PPart) : pLen (P ++ R) = pLen P + pLen R := by simp [pLen]
theorem ded_len (is : List PPart) : pLen (ded is) ≤ pLen is ∧ (ded is).length ≤ is.length := by
  have h : ∀ (is ps : List PPart), pLen (is.foldl dedS ps) ≤ pLen ps + pLen is ∧ (is.foldl dedS ps).length ≤ ps.length + is.length := by
    intro is
    induction is with
    | nil => intro ps; exact ⟨Nat.le_refl _, Nat.le_refl _⟩
    | cons i r ih =>
      intro ps
      obtain ⟨h1, h2⟩ := ih (dedS ps i)
      have h3 : pLen (dedS ps i) ≤ pLen ps + pLen [i] ∧ (dedS ps i).length ≤ ps.length + 1 := by
        cases i with
        | none =>
          show pLen (if ps.getLast? = some none then ps else ps ++ [none]) ≤ _ ∧ (if ps.getLast? = some none then ps else ps ++ [none]).length ≤ _
          split
          · exact ⟨Nat.le_add_right _ _, Nat.le_succ _⟩
          · rw [pLen_append]; simp
        | some l => show pLen (ps ++ [some l]) ≤ _ ∧ (ps ++ [some l]).length ≤ _; rw [pLen_append]; simp
      have h4 : pLen (i :: r) = pLen [i] + pLen r := pLen_append [i] r
      rw [List.foldl_cons, List.length_cons]
      omega
  have h1 := h is []
  exact ⟨by simpa [pLen, ded] using h1.1, by simpa [ded] using h1.2⟩
theorem tok_len (ts : List PTok) (h : ∀ t ∈ ts, t.Ok) : pLen (ts.map tokItem) ≤ 4 * ts.length ∧ (codesOf ts).length ≤ 3 * ts.length := by
  induction ts with
  | nil => exact ⟨Nat.le_refl _, Nat.le_refl _⟩
  | cons t r ih =>
    obtain ⟨h1, h2⟩ := ih (fun x hx => h x (.tail _ hx))
    have h3 : pLen ((t :: r).map tokItem) = pLen [tokItem t] + pLen (r.map tokItem) := pLen_append [tokItem t] _
    have h4 : pLen [tokItem t] ≤ 4 := by
      cases t with
      | lit c => show (escC c).length + 0 ≤ 4; unfold escC; split <;> simp
      | star => decide
      | q => decide
      | br c => show (brT c).length + 0 ≤ 4; unfold brT; split <;> simp
    have h5 : t.codes.length ≤ 3 := by cases t <;> simp [PTok.codes]
    rw [h3, codesOf_cons, List.length_append, List.length_cons]
    omega

noncomputable abbrev objO : Obj := { cls := .type "object", dict := none, data := .plain, slots := #[] }
set_option maxRecDepth 100000 in
set_option maxHeartbeats 8000000 in
theorem x_object (w : World) (A : Around) (s : Shared) (Q E : Value → Shared → Prop)
  (hQ : ∀ a h' tk', Mem s.heap h' [] [(a, objO)] → Q (.ref a) ⟨h', s.gens, s.drawn, tk', s.os⟩) :
   wpAny (model pw w) A (call (.type "object")) Q E s := by
  x_run
theorem object_at {w : World} {A : Around} {E Q : Value → Shared → Prop} {s : Shared} {h₀ : Heap} {L : Addr} {m : Str → Option Value} {news : List (Addr × Obj)}
    (F : Fr h₀ L s.heap m) (N : News h₀ L s.heap news)
    (h : ∀ a h' tk', Fr h₀ L h' m → News h₀ L h' ((a, objO) :: news) → (∀ q ∈ news, q.1 ≠ a) → Q (.ref a) { s with heap := h', toks := tk' }) :
    wpAny (model pw w) A (call (.type "object")) Q E s := by
  refine x_object w A s Q E fun a h' tk' D => ?_
  obtain ⟨F', N', hne⟩ := xk F N D
  exact h a h' tk' F' N' hne
local macro_rules | `(tactic| walk_at "call type:object") => `(tactic| (k_here; k_dflt (refine' object_at ?k1 ?k2 ?_; (case k1 => k_asm); (case k2 => k_asm); k_whole); intro o' h' tk' F' N' l1; (replace l1 := allNe_mk l1); (try k_sweep)))
section Y3
local macro_rules | `(tactic| walk_at "call ref") => `(tactic| (k_here; (with_reducible show wpAny _ _ (call (Value.ref 87) [Value.str _ _, Value.ref _, Value.str _ _]) _ _ _); k_dflt (refine' translate_parts ?k1 ?k2 ?k3 ?k4 ?k5 ?k6 ?k7 ?k8 ?k9 ?kA ?kB ?kC ?_; (case k8 => k_asm); (case k1 => assumption); (case k2 => assumption); (case k3 => k_updF); (case k4 => assumption); (case k5 => k_asm); (case k6 => k_asm); (case k7 => k_asm); (case k9 => k_asm); (case kA => exact rfl); (case kB => ktr_room); (case kC => ktr_units); k_whole); intro lp itsp np psp h' tk' F' N' hpsp hlp hpa; (try dsimp only at N'); (try k_sweep)))
local macro_rules | `(tactic| walk_at "call ref") => `(tactic| (k_here; (with_reducible show wpAny _ _ (call (Value.ref 94) [Value.ref _, Value.ref _]) _ _ _); k_here; refine myStop ?_))
set_option maxRecDepth 100000 in
set_option maxHeartbeats 0 in
theorem translate_call {w : World} {p : Program} {loose : List Str} {mean : ExcName → Option Value} {mg mb : Str → Option Value} {dp un : Nat} {gd : Option (List Code)} {cn : Str} {cs : Scope} {a : Addr} {ccd : Value} {cl : List (Str × Addr)} {outer : List Env} {A₀ : Around} {base h₀ : Heap} {L : Addr} {m : Str → Option Value} {news : List (Addr × Obj)} {g : Obj → List (Addr × Obj)} {s : Shared} {Q : Value → Shared → Prop} {toks : List PTok} {tkp : Tok} {ps0 : Array Value}
  (hok : ∀ t ∈ toks, t.Ok) (hlen : toks.length ≤ 1000) (U : UpdF 82 (tabObj ps0) news g) (hg : TabGood ps0)
  (B : Below A₀ base outer h₀) (F : Fr h₀ L s.heap m) (KX : (hd0.heap_1 w.params).In h₀) (N : News h₀ L s.heap news) (T : Top p loose mean mg mb h₀) (hk : cs.kind = .function)
  (hd : dp + 20 < recursionLimit) (hu : un + 160 < cLine)
  (hret : ∀ ps t h' tk', Fr h₀ L h' m → News h₀ L h' (g (tabObj ps)) → TabGood ps → Q (.str (mkS (rend (toks.map tokItem))) t) {s with heap := h', toks := tk'}) :
   wpAny (model pw w) (ktrTop dp un gd cn cs L a ccd cl outer) (call (.ref 68) [.str (Str.mk (codesOf toks).toArray) tkp]) Q (fun _ _ => False) s := by
  have hlen2 : (codesOf toks).length ≤ 10000 := by have := (tok_len toks hok).2; omega
  refine wpAny_call ?_
  k_dflt walk_at "MY ENTER"
  k_steps
  rename_i o1 h1 tk1 l1 h2 F2 N2
  have h82 : @Ne Nat o1 82 := fun e => updF_ne U l1 e.symm
  k_steps
  rename_i tkx l its n ps h3 tk3 hps hl hpa h5 F3 N3
  have hpe := splitG_parts (ded (toks.map tokItem))
  have hto := tok_len toks hok
  have hdl := ded_len (toks.map tokItem)
  have hsl := splitG_len (ded (toks.map tokItem))
  have hgd := (splitG_good _ (ded_noTwo (toks.map tokItem))).1
  rw [partsOf_ded] at hpa
  have hsz := parts_size hpa
  have hsz2 : its.size ≤ 10000 := by rw [hsz]; have := hdl.2; rw [List.length_map] at this; omega
  have hml := mids_length ((splitG (ded (toks.map tokItem))).2.map List.flatten)
  rw [hpe] at hpa
  have htl : ((splitG (ded (toks.map tokItem))).1.flatten ++ mids ((splitG (ded (toks.map tokItem))).2.map List.flatten)).length ≤ 100000 := by
    rw [List.length_append]; rw [List.length_map] at hml; have := hdl.2; rw [List.length_map] at this; omega
  have hgl : ∀ g ∈ (splitG (ded (toks.map tokItem))).2, g.flatten.length ≤ 100000 := by
    intro g hg
    have h1 : g.flatten.length ≤ ((splitG (ded (toks.map tokItem))).2.map List.flatten).flatten.length := by
      obtain ⟨A, B, hAB⟩ := List.append_of_mem hg
      rw [hAB]; simp; omega
    omega
  refine myStop ?_
  k_dflt (refine' join_parts (its := its) (n0 := n) hpa hgd hsz2 htl hgl (.head _) ?k1 ?k2 ?k3 ?k4 ?k5 ?k6 ?k7 ?k8 ?_)
  case k4 => k_asm
  case k1 => k_asm
  case k2 => k_asm
  case k3 => k_asm
  case k5 => k_asm
  case k6 => exact rfl
  case k7 => ktr_room
  case k8 => ktr_units
  k_whole
  intro t4 h6 tk6 F6 N6
  k_steps
  exact hret ps _ _ _ (by assumption) (news_sub _ (by assumption) (fun q hq => .tail _ (.tail _ hq))) hps
end Y3
/- dicts of texts, written out with their tokens -/
structure KV where
  k : List Nat
  tk : Tok
  v : List Nat
  tv : Tok
noncomputable def KV.ent (w : World) (e : KV) : DictEntry := ⟨hashStr w (mkS e.k), .str (mkS e.k) e.tk, .str (mkS e.v) e.tv⟩
noncomputable abbrev dO (w : World) (l : List KV) (ep : Nat) : Obj := { cls := .type "dict", dict := none, data := .dict (l.map (KV.ent w)).toArray ep, slots := #[] }
noncomputable def kvP (l : List KV) : List (Str × Value) := l.map fun e => (mkS e.k, .str (mkS e.v) e.tv)
theorem mkS_inj {a b : List Nat} (h : mkS a = mkS b) : a = b := by
  have := congrArg (fun s : Str => s.cps.toList) h
  simpa [mkS] using this
theorem kv_is (w : World) (x : Str) (t : Tok) : (strKind pw w).is x (.str x t) = true := strKind_is pw w x t
theorem kvP_pairs (w : World) : ∀ l : List KV, Pairs (strKind pw w) (l.map (KV.ent w)) (kvP l)
  | [] => .nil
  | e :: r => .cons (kv_is w _ _) rfl (kvP_pairs w r)
theorem kvP_nodup {l : List KV} (hn : (l.map KV.k).Nodup) : ((kvP l).map (·.1)).Nodup := by
  have e : (kvP l).map (·.1) = (l.map KV.k).map mkS := by unfold kvP; simp
  rw [e]
  exact List.Pairwise.map _ (fun a b h h' => h (mkS_inj h')) hn
theorem dO_is {w : World} {l : List KV} {ep : Nat} (hn : (l.map KV.k).Nodup) : (dO w l ep).IsDictOf (strKind pw w) (kvP l) :=
  ⟨(l.map (KV.ent w)).toArray, ep, ⟨rfl, rfl, rfl⟩, rfl, fun e he => by
    obtain ⟨x, _, rfl⟩ := List.mem_map.mp (List.mem_toArray.mp he)
    exact ⟨mkS x.k, kv_is w _ _, rfl⟩, kvP_pairs w l, kvP_nodup hn⟩
theorem kvP_length (l : List KV) : (kvP l).length = l.length := by unfold kvP; simp
noncomputable def DAt (w : World) (h : Heap) (d : Addr) (l : List KV) (ep : Nat) : Prop := h.get? d = some (dO w l ep) ∧ (l.map KV.k).Nodup
theorem DAt.dictAt {w : World} {h : Heap} {d : Addr} {l : List KV} {ep : Nat} (x : DAt w h d l ep) : h.DictAt (strKind pw w) d (kvP l) ep := by
  obtain ⟨es, n, hE, hd, r⟩ := dO_is (w := w) (ep := ep) x.2
  have e : n = ep ∧ es = (l.map (KV.ent w)).toArray := by
    have hd' : Data.dict (l.map (KV.ent w)).toArray ep = Data.dict es n := hd
    injection hd' with a b
    exact ⟨b.symm, a.symm⟩
  obtain ⟨rfl, rfl⟩ := e
  exact ⟨dO w l n, _, x.1, hE, rfl, r⟩
section
variable {w : World} {A : Around} {E : Value → Shared → Prop} {s : Shared}
/-- the next item of a written dict is the entry itself -/
theorem next_kv {it d : Addr} {i ep : Nat} {l : List KV} {e : KV} {ok ov : Value} {Q : Option Value → Shared → Prop} (hit : IsItemIter s.heap it d i l.length ep ok ov)
    (hd : DAt w s.heap d l ep) (hx : l[i]? = some e)
    (hQ : ∀ h', IsItemIterOut h' it d (i + 1) l.length ep (.str (mkS e.k) e.tk) (.str (mkS e.v) e.tv) s.heap.objs.size →
      h'.get? s.heap.objs.size = some { cls := .type "tuple", data := .seq #[.str (mkS e.k) e.tk, .str (mkS e.v) e.tv] } → h'.objs.size = s.heap.objs.size + 1 →
      (∀ b o, b ≠ it → s.heap.get? b = some o → h'.get? b = some o) → Q (some (.ref s.heap.objs.size)) { s with heap := h' }) :
    wpAny (model pw w) A (pyNext (.ref it)) Q E s := by
  obtain ⟨H, gs, dr, tk, os⟩ := s
  have hT : Shared.TypeIs ⟨H, gs, dr, tk, os⟩ (.ref it) "dict_itemiterator" := ⟨_, hit, rfl⟩
  have hlt : it < H.objs.size := Heap.lt_size hit
  have hgt : H.objs.size ≠ it := Nat.ne_of_gt hlt
  have hsz : (l.map (KV.ent w)).toArray.size = l.length := by simp
  have hget : (l.map (KV.ent w)).toArray[i]? = some (e.ent w) := by simp [hx]
  unfold pyNext
  refine wpAny_bind (wpAny_attempt (wpAny_callSpecial?_slot (name := Str.ofString "__next__") hT F.slot_dict_itemiterator_next
    (wpAny_call_entry F.slot_dict_itemiterator_next hT F.entry_dict_itemiterator_next ?_ (F.args_dict_itemiterator_next_1 _))))
  refine wpAny_bind (wpAny_pure ?_)
  refine wpAny_bind ?_
  refine wpAny_bind ?_
  refine wpAny_bind (wpAny_typeNameOfWhole_itemiter hT (wpAny_pure ?_))
  refine wpAny_bind (wpAny_fieldsOf hit rfl ?_)
  simp only [show Builtin.Dict_items.ownsTuple "dict_itemiterator" = true by decide, if_true]
  show wpAny _ _ (if (Value.ref d == Value.none) = true then _ else _) _ _ _
  rw [if_neg (fun x => by cases x)]
  refine wpAny_bind (wpAny_pure ?_)
  refine wpAny_bind (wpAny_dictEntries hd.1 rfl ?_)
  rw [if_neg (by rw [hsz]; simp)]
  refine wpAny_bind (wpAny_pure ?_)
  refine wpAny_bind (wpAny_dictEpoch hd.1 rfl ?_)
  rw [if_neg (by simp)]
  refine wpAny_pure ?_
  simp only [show ¬ ((i : Int) < 0) from by omega, if_false, Int.toNat_natCast, hget]
  refine wpAny_bind ?_
  refine wpAny_bind (wpAny_typeNameOfWhole_itemiter hT (wpAny_pure ?_))
  refine wpAny_bind (wpAny_isOneOf_itemiter hT ?_)
  show wpAny _ _ (setField (.ref it) 3 (rawInt ((i : Int) + 1)) >>= _) _ _ _
  refine wpAny_bind (wpAny_setField_rec hit (by simp) fun H1 g1 b1 => ?_)
  replace b1 : Heap.SameBut it H H1 := b1
  replace g1 : IsItemIter H1 it d (i + 1) l.length ep ok ov := by
    have e : ((i + 1 : Nat) : Int) = (i : Int) + 1 := by omega
    unfold IsItemIter; rw [e]; simpa [rawInt] using g1
  have hT1 : Shared.TypeIs ⟨H1, gs, dr, tk, os⟩ (.ref it) "dict_itemiterator" := ⟨_, g1, rfl⟩
  refine wpAny_bind (wpAny_holding ?_)
  refine wpAny_bind (wpAny_isOneOf_itemiter hT1 ?_)
  refine wpAny_bind (wpAny_isOneOf_itemiter hT1 ?_)
  show wpAny _ _ (Builtin.Dict_items.pairFromOwner (.ref it) 6 (e.ent w).key (e.ent w).val) _ _ _
  unfold Builtin.Dict_items.pairFromOwner
  refine wpAny_bind (wpAny_newTuple ?_)
  have g2 : IsItemIter (H1.push { cls := .type "tuple", data := .seq #[(e.ent w).key, (e.ent w).val] }) it d (i + 1) l.length ep ok ov := Heap.get?_push_of_some _ g1
  have z1 : H1.objs.size = H.objs.size := b1.1
  have t2 : (H1.push { cls := .type "tuple", data := .seq #[(e.ent w).key, (e.ent w).val] }).get? H.objs.size = some { cls := .type "tuple", data := .seq #[(e.ent w).key, (e.ent w).val] } := by
    rw [← z1]; exact Heap.get?_push_size _ rfl
  have k2 : ∀ b o, b ≠ it → H.get? b = some o → (H1.push { cls := .type "tuple", data := .seq #[(e.ent w).key, (e.ent w).val] }).get? b = some o := fun b o hb x => Heap.get?_push_of_some _ (b1.extBut b o hb x)
  have z2 : (H1.push { cls := .type "tuple", data := .seq #[(e.ent w).key, (e.ent w).val] }).objs.size = H.objs.size + 1 := by rw [Heap.size_push, z1]
  show wpAny _ _ (Builtin.Dict_items.ownedTupleIsFree (.ref it) >>= _) _ _ _
  generalize H1.push { cls := .type "tuple", data := .seq #[(e.ent w).key, (e.ent w).val] } = H2 at g2 t2 k2 z2 ⊢
  rw [z1]
  refine wpAny_bind ?_
  unfold Builtin.Dict_items.ownedTupleIsFree
  refine wpAny_bind (wpAny_field g2 rfl (x := .none) rfl (wpAny_pure ?_))
  simp only [if_true]
  refine wpAny_bind (wpAny_field g2 rfl (x := ok) rfl ?_)
  refine wpAny_bind (wpAny_field g2 rfl (x := ov) rfl ?_)
  refine wpAny_bind (wpAny_setField_rec g2 (by simp) fun H3 g3 b3 => ?_)
  replace g3 : IsItemIter H3 it d (i + 1) l.length ep (e.ent w).key ov := g3
  refine wpAny_bind (wpAny_setField_rec g3 (by simp) fun H4 g4 b4 => ?_)
  replace g4 : IsItemIter H4 it d (i + 1) l.length ep (e.ent w).key (e.ent w).val := g4
  refine wpAny_bind (wpAny_setField_rec g4 (by simp) fun H5 g5 b5 => ?_)
  replace g5 : IsItemIterOut H5 it d (i + 1) l.length ep (e.ent w).key (e.ent w).val H.objs.size := g5
  refine wpAny_bind (wpAny_setField_rec g5 (by simp) fun H6 g6 b6 => ?_)
  replace g6 : IsItemIterOut H6 it d (i + 1) l.length ep (e.ent w).key (e.ent w).val H.objs.size := g6
  replace b3 : Heap.SameBut it H2 H3 := b3
  replace b4 : Heap.SameBut it H3 H4 := b4
  replace b5 : Heap.SameBut it H4 H5 := b5
  replace b6 : Heap.SameBut it H5 H6 := b6
  have fr : ∀ b o, b ≠ it → H2.get? b = some o → H6.get? b = some o := fun b o hb x => b6.extBut b o hb (b5.extBut b o hb (b4.extBut b o hb (b3.extBut b o hb x)))
  refine wpAny_bind (wpAny_letGo (wpAny_pure (wpAny_pure ⟨_, rfl, wpAny_pure (hQ H6 g6 (fr _ _ hgt t2) ?_ fun b o hb x => fr b o hb (k2 b o hb x))⟩)))
  show H6.objs.size = H.objs.size + 1
  rw [b6.1, b5.1, b4.1, b3.1, z2]
end
theorem kv_turns {w : World} {A : Around} {elts : List PySem.Expr} {kk : Nat} {pos : Pos} (hh : A.handled = none) (I d : Addr) (hne : d ≠ I) (l : List KV) (ep : Nat) :
    KTurns pw w A (.Tuple elts kk pos) I [I, d] [I] l.length
      (fun i v h => ∃ T e, v = .ref T ∧ l[i]? = some e ∧ h.IsTuple T #[.str (mkS e.k) e.tk, .str (mkS e.v) e.tv])
      (fun i v h => ∃ T e, v = .ref T ∧ l[i]? = some e ∧ h.IsTuple T #[.str (mkS e.k) e.tk, .str (mkS e.v) e.tv] ∧ IsItemIterOut h I d (i + 1) l.length ep (.str (mkS e.k) e.tk) (.str (mkS e.v) e.tv) T ∧ DAt w h d l ep ∧ T ≠ I)
      (fun i h => (∃ ok ov, IsItemIter h I d i l.length ep ok ov) ∧ DAt w h d l ep) where
  sub := fun b hb => by simp at hb; simp [hb]
  frame := fun i h h' st hk => by
    obtain ⟨⟨ok, ov, he⟩, hm⟩ := st
    exact ⟨⟨ok, ov, hk I (by simp) _ he⟩, hk d (by simp) _ hm.1, hm.2⟩
  item := fun i s Q E hi st hQ => by
    obtain ⟨⟨ok, ov, he⟩, hm⟩ := st
    have hx : l[i]? = some l[i] := by simp [hi]
    refine next_kv he hm hx fun h' ho hT hsz hk => ?_
    exact hQ (.ref s.heap.objs.size) h' s.toks ⟨s.heap.objs.size, l[i], rfl, hx, ⟨_, hT, rfl, _, rfl⟩, ho, ⟨hk d _ hne hm.1, hm.2⟩, Nat.ne_of_gt (Heap.lt_size he)⟩ fun b o hb e => hk b o (fun h => hb (by simp [h])) e
  go := fun i v s Q E hm hQ => by
    obtain ⟨T, e, rfl, hx, hT, ho, hd, hTI⟩ := hm
    refine wpAny_letOwnedTupleGo_items ho fun h' he hs => ?_
    exact hQ h' ⟨T, e, rfl, hx, hT.at fun o x => hs.extBut T o hTI x⟩ ⟨⟨_, _, he⟩, hs.extBut d _ hne hd.1, hd.2⟩ fun b o hb x => hs.extBut b o (fun h => hb (by simp [h])) x
  done := fun s Q E st hQ => by
    obtain ⟨⟨ok, ov, he⟩, hm⟩ := st
    have he' : IsItemIter s.heap I d l.length (kvP l).length ep ok ov := by rw [kvP_length]; exact he
    exact wpAny_pyNext_items_end (knd := strKind pw w) (kvs := kvP l) hh he' hm.dictAt (by rw [← kvP_length l]; simp) fun h' hx => hQ h' s.toks fun b o hb e => hx b o (fun h => hb (by simp [h])) e
section
variable {w : World} {A : Around} {E : Value → Shared → Prop} {s : Shared} {env : Env} {h₀ : Heap} {body : List Stmt} {Q : Flow → Shared → Prop}
noncomputable def kvItm (e : KV) : Itm := .pair (fun _ => .str (mkS e.k) e.tk) (.str (mkS e.v) e.tv)
theorem kv_items {elts : List PySem.Expr} {kk : Nat} {pos : Pos} {d vw : Addr} {l : List KV} {ep : Nat} {m₀ : Str → Option Value} {news : List (Addr × Obj)}
    (hh : A.handled = none) (F : Fr h₀ env.locals s.heap m₀) (N : News h₀ env.locals s.heap news) (hvw : ∃ ov, s.heap.get? vw = some ov ∧ ov.cls = .type "dict_items" ∧ ov.data = .fields #[.ref d]) (hm : (d, dO w l ep) ∈ news) (hn : (l.map KV.k).Nodup)
    (rest₀ : ∀ I : Addr, (∀ p ∈ news, p.1 < I) → ItemsRest pw w A E h₀ env (.Tuple elts kk pos) body Q s [(I, "dict_itemiterator")] [(d, dO w l ep)] (l.map kvItm) m₀ news) :
    wpAny (model pw w) A (pyIter (.ref vw)) (fun it s₂ => TurnsAt pw w A h₀ env (.Tuple elts kk pos) body Q E it s₂) E s := by
  have hax := N _ hm
  have hat : DAt w s.heap d l ep := ⟨hax.1, hn⟩
  have hlt : d < s.heap.objs.size := Heap.lt_size hax.1
  have hne : d ≠ s.heap.objs.size := Nat.ne_of_lt hlt
  refine wpAny_pyIter_items hvw hat.dictAt ?_
  rw [kvP_length]
  refine ktu_core (tk0 := s.toks) (keep := [(d, dO w l ep)]) (kv_turns hh s.heap.objs.size d hne l ep) (by rw [List.length_map]) ?_ ?_ ?_ ?_ ?_ ?_ ?_ ?_ (F.push _) (fun p hp => ⟨Heap.get?_push_of_some _ (N p hp).1, (N p hp).2⟩) (And.intro hm trivial) (rest₀ _ fun p hp => Heap.lt_size (N p hp).1)
  · rintro i v h ⟨T', e, rfl, hx, hT⟩
    exact ⟨kvItm e, by rw [List.getElem?_map, hx]; rfl, T', 0, rfl, hT⟩
  · rintro i h ⟨⟨ok, ov, he⟩, _⟩
    have e1 : ∃ o : Obj, h.get? s.heap.objs.size = some o ∧ o.cls = .type "dict_itemiterator" := ⟨_, he, rfl⟩
    obtain ⟨oi, g, c⟩ := e1
    exact ⟨[(s.heap.objs.size, oi)], ⟨⟨rfl, c⟩, trivial⟩, fun p hp => by rw [List.mem_singleton.mp hp]; exact g⟩
  · intro b hb
    have hb' : b = s.heap.objs.size := by simpa using hb
    rw [hb']
    exact ⟨List.mem_cons_self .., next_is_new F⟩
  · intro b hb
    simpa using hb
  · intro b hb
    have hb' : b = s.heap.objs.size ∨ b = d := by simpa using hb
    rcases hb' with e | e
    · exact .inl (by simp [e])
    · exact .inr ⟨dO w l ep, by simp [e]⟩
  · intro hI
    have hb' : env.locals = s.heap.objs.size ∨ env.locals = d := by simpa using hI
    rcases hb' with e | e
    · exact absurd F.ns.lt (e ▸ Nat.lt_irrefl _)
    · exact hax.2.1 e.symm
  · intro p hp hI
    exact absurd (Heap.lt_size (N p hp).1) ((List.mem_singleton.mp hI) ▸ Nat.lt_irrefl _)
  · exact ⟨⟨.none, .none, Heap.get?_push_size _ rfl⟩, Heap.get?_push_of_some _ hat.1, hn⟩
end
/- for loops over many items -/
noncomputable def FPost {σ : Type} (h₀ : Heap) (L : Addr) (s₁ : Shared) (I : Addr) (o : Obj) (own : σ → List (Addr × Obj)) (base : List (Addr × Obj)) (fm : σ → List (Str × Value)) (J : σ → Prop) (Q : Flow → Shared → Prop) (f : Flow) (s₂ : Shared) : Prop :=
  match f with
  | .ret v => Q (.ret v) s₂
  | .brk => Q .next s₂
  | _ => ∃ (c' : σ) (h' : Heap) (tk : Nat) (m' : Str → Option Value) (news' : List (Addr × Obj)), s₂ = { s₁ with heap := h', toks := tk } ∧ Fr h₀ L h' m' ∧ News h₀ L h' news' ∧ (I, o) ∈ news' ∧ (∀ p ∈ own c' ++ base, p ∈ news') ∧ (∀ p ∈ fm c', m' p.1 = some p.2) ∧ J c'
theorem my_fend {σ : Type} {h₀ : Heap} {L : Addr} {s₁ : Shared} {I : Addr} {o : Obj} {own : σ → List (Addr × Obj)} {base : List (Addr × Obj)} {fm : σ → List (Str × Value)} {J : σ → Prop} {Q : Flow → Shared → Prop} {h' : Heap} {tk : Nat} {m' : Str → Option Value} {news' : List (Addr × Obj)} (c' : σ)
    (F' : Fr h₀ L h' m') (N' : News h₀ L h' news') (hit : (I, o) ∈ news') (led : ∀ p ∈ own c' ++ base, p ∈ news') (hfm : ∀ p ∈ fm c', m' p.1 = some p.2) (hJ : J c') :
    FPost h₀ L s₁ I o own base fm J Q .next { s₁ with heap := h', toks := tk } := ⟨c', h', tk, m', news', rfl, F', N', hit, led, hfm, hJ⟩
theorem subL_of {l all : List (Addr × Obj)} (h : ∀ p ∈ l, p ∈ all) : SubL l all := by
  induction l with
  | nil => trivial
  | cons p r ih => exact ⟨h p (.head _), ih fun q hq => h q (.tail _ hq)⟩
theorem my_rest {σ α : Type} {prog : Program} {w : World} {A : Around} {E : Value → Shared → Prop} {s : Shared} {env : Env} {h₀ : Heap} {target : PySem.Expr} {body : List Stmt} {Q : Flow → Shared → Prop} {itc : String} {I : Addr} {base keep : List (Addr × Obj)} (item : α → Itm)
    (own : σ → List (Addr × Obj)) (fm : σ → List (Str × Value)) (Inv : List α → σ → Prop)
    (hb : ∀ p ∈ base, p.1 < I) (hoff : ∀ c, ∀ p ∈ own c, p.2.cls ≠ .type itc) (hkeep : ∀ c, SubL keep (own c ++ base))
    (turn : ∀ a r c u v h tk o, Inv (a :: r) c → (item a).Is v h → o.cls = .type itc → Fr h₀ env.locals h (kstB u (fm c)) → News h₀ env.locals h ((I, o) :: (own c ++ base)) → (∀ p ∈ own c ++ base, p.1 ≠ I) →
      wpAny (model prog w) A (assign target env v) (fun _ s₂ => wpAny (model prog w) A (execs body env) (FPost h₀ env.locals { s with heap := h, toks := tk } I o own base fm (Inv r) Q) E s₂) E { s with heap := h, toks := tk })
    (fin : ∀ c u h tk, Inv [] c → Fr h₀ env.locals h (kstB u (fm c)) → News h₀ env.locals h (own c ++ base) → Q .next { s with heap := h, toks := tk }) :
    ∀ (r : List α) (c : σ) (m : Str → Option Value), Inv r c → (∀ p ∈ fm c, m p.1 = some p.2) → ItemsRest prog w A E h₀ env target body Q s [(I, itc)] keep (r.map item) m (own c ++ base)
  | [], c, m, hI, hk => by
    intro h tk F N
    exact fin c m h tk hI (by rw [kstB_same hk]; exact F) N
  | a :: r, c, m, hI, hk => by
    intro v h tk hv F o ho N
    have off : ∀ c', ∀ {hh : Heap} {nn : List (Addr × Obj)}, News h₀ env.locals hh nn → (I, o) ∈ nn → (∀ p ∈ own c' ++ base, p ∈ nn) → ∀ p ∈ own c' ++ base, p.1 ≠ I := by
      intro c' hh nn N' hi led p hp e
      rcases List.mem_append.mp hp with hp' | hp'
      · have h1 := (N' _ (led p hp)).1
        have h2 := (N' _ hi).1
        rw [e] at h1
        have h3 : p.2 = o := Option.some.inj (h1.symm.trans h2)
        exact hoff c' p hp' (by rw [h3]; exact ho)
      · have := hb p hp'
        rw [e] at this
        exact Nat.lt_irrefl _ this
    refine wpAny_mono (turn a r c m v h tk o hI hv ho (by rw [kstB_same hk]; exact F) N (off c N (.head _) fun p hp => .tail _ hp)) (fun _ s₂ h₂ => wpAny_mono h₂ (fun f s₃ p => ?_) fun _ _ e => e) fun _ _ e => e
    have key : (∃ (c' : σ) (h' : Heap) (tk' : Nat) (m' : Str → Option Value) (news' : List (Addr × Obj)), s₃ = { { s with heap := h, toks := tk } with heap := h', toks := tk' } ∧ Fr h₀ env.locals h' m' ∧ News h₀ env.locals h' news' ∧ (I, o) ∈ news' ∧ (∀ p ∈ own c' ++ base, p ∈ news') ∧ (∀ p ∈ fm c', m' p.1 = some p.2) ∧ Inv r c') →
        UnrEndW h₀ env.locals { s with heap := h, toks := tk } [(I, o)] (fun m' n' => SubL keep n' ∧ ItemsRest prog w A E h₀ env target body Q s [(I, itc)] keep (r.map item) m' n') s₃ := by
      rintro ⟨c', h', tk', m', news', rfl, F', N', hi, led, hfm, hJ⟩
      refine ⟨h', tk', m', own c' ++ base, rfl, F', fun p hp => ?_, fun p hp q hq => ?_, hkeep c', my_rest item own fm Inv hb hoff hkeep turn fin r c' m' hJ hfm⟩
      · rcases List.mem_append.mp hp with hp | hp
        · rw [List.mem_singleton.mp hp]; exact N' _ hi
        · exact N' _ (led p hp)
      · rw [List.mem_singleton.mp hq]; exact off c' N' hi led p hp
    cases f with
    | ret v => exact p
    | brk => exact p
    | next => exact key p
    | cont => exact key p
local macro_rules | `(tactic| walk_at "PAD") => `(tactic| fail)
noncomputable def repl (x y z : List Nat) : List Nat := (Txt.replace (mkS x) (mkS y) (mkS z)).cps.toList
theorem mkS_repl (x y z : List Nat) : Txt.replace (mkS x) (mkS y) (mkS z) = mkS (repl x y z) := by
  unfold repl mkS
  simp
noncomputable def replAll (x : List Nat) (l : List KV) : List Nat := l.foldl (fun s e => repl s e.k e.v) x
noncomputable def ROk : List Nat → List KV → Prop
  | _, [] => True
  | x, e :: r => (x.length ≤ 1048576 ∧ e.v.length ≤ 14 ∧ e.tk ≠ 0 ∧ e.tv ≠ 0 ∧ e.tk ≠ e.tv ∧ e.k ≠ e.v) ∧ ROk (repl x e.k e.v) r
theorem beq_mkS {a b : List Nat} (h : a ≠ b) : (mkS a == mkS b) = false := beq_eq_false_iff_ne.mpr fun e => h (mkS_inj e)
section
variable {w : World} {A : Around} {E : Value → Shared → Prop} {s : Shared} {h₀ : Heap} {L d : Addr} {news : List (Addr × Obj)} {o : Obj} {kvs : List (Str × Value)}
theorem getm_items {pl : Sem Bool} {Q : Value × List Value → Shared → Prop} (N : News h₀ L s.heap news) (hp : (d, o) ∈ news) (hd : o.IsDictOf (strKind pw w) kvs) (h : Q (.builtin "dict.items", [.ref d]) s) : wpAny (model pw w) A (getMethod (.ref d) (Str.ofString "items") pl) Q E s :=
  have hD := kda_dict N hp hd
  getMethod_builtin hD.typeIs PySem.F.plainAttrs_dict PySem.F.slot_dict_items PySem.F.type_dict_items hD.mapOf.noDict h
end
theorem rep_mk {w : World} {A : Around} {E Q : Value → Shared → Prop} {s : Shared} {x y z : List Nat} {t u v : Tok} (hu : u ≠ 0) (hv : v ≠ 0) (huv : u ≠ v) (hyz : (mkS y == mkS z) = false) (hx : x.length ≤ 1048576) (hz : z.length ≤ 14)
    (hq : ∀ t' k, Q (.str (mkS (repl x y z)) t') { s with toks := k }) : wpAny (model pw w) A (call (.builtin "str.replace") [.str (mkS x) t, .str (mkS y) u, .str (mkS z) v]) Q E s := by
  refine SC.replaceW hu hv huv hyz (by rw [mkS_length]; exact hx) (by rw [mkS_length]; exact hz) fun t' k => ?_
  rw [mkS_repl]
  exact hq t' k
local macro_rules | `(tactic| walk_at "call builtin:str.replace") => `(tactic| (k_here; (with_reducible show wpAny _ _ (call (Value.builtin "str.replace") [Value.str (mkS _) _, Value.str (mkS _) _, Value.str (mkS _) _]) _ _ _); k_dflt (refine' rep_mk ?k1 ?k2 ?k3 ?k4 ?k5 ?k6 ?_; (case k1 => assumption); (case k2 => assumption); (case k3 => assumption); (case k4 => assumption); (case k5 => assumption); (case k6 => assumption); k_whole); intro _ _))
local macro_rules | `(tactic| walk_at "getMethod ref") => `(tactic| (k_here; (with_reducible show wpAny _ _ (getMethod (Value.ref _) (Str.ofString "items") _) _ _ _); k_dflt (refine' getm_items ?k1 ?k2 ?k3 ?_; (case k1 => k_asm); (case k2 => k_mem); (case k3 => assumption); k_whole)))
local macro_rules | `(tactic| walk_at "call builtin:dict.items") => `(tactic| (k_here; k_dflt (refine' kta_callItems (knd := strKind pw _) ?k1 ?k2 ?k3 ?k4 ?k5 ?_; (case k1 => k_asm); (case k2 => k_asm); (case k3 => k_mem); (case k4 => assumption); (case k5 => assumption); k_whole); intro h' hv' F' N'; (try k_sweep)))
section Z2
local macro_rules | `(tactic| walk_at "pyIter ref") => `(tactic| (k_here; refine myStop ?_))
local macro_rules | `(tactic| walk_at "exec For") => `(tactic| (k_here; refine myStop ?_))
structure RS where
  x : List Nat
  t : Tok
set_option maxRecDepth 100000 in
set_option maxHeartbeats 0 in
theorem dict_replace_call {w : World} {p : Program} {loose : List Str} {mean : ExcName → Option Value} {mg mb : Str → Option Value} {dp un : Nat} {gd : Option (List Code)} {cn : Str} {cs : Scope} {a : Addr} {ccd : Value} {cl : List (Str × Addr)} {outer : List Env} {A₀ : Around} {base h₀ : Heap} {L : Addr} {m : Str → Option Value} {news : List (Addr × Obj)} {s : Shared} {Q : Value → Shared → Prop} {x : List Nat} {tx : Tok} {d : Addr} {l : List KV} {ep : Nat}
  (hm : (d, dO w l ep) ∈ news) (hn : (l.map KV.k).Nodup) (hok : ROk x l) (hds : (d == sysModules) = false)
  (B : Below A₀ base outer h₀) (F : Fr h₀ L s.heap m) (KX : (hd0.heap_1 w.params).In h₀) (N : News h₀ L s.heap news) (T : Top p loose mean mg mb h₀) (hk : cs.kind = .function)
  (hd : dp + 5 < recursionLimit) (hu : un + 40 < cLine)
  (hret : ∀ t h' tk', Fr h₀ L h' m → News h₀ L h' news → Q (.str (mkS (replAll x l)) t) {s with heap := h', toks := tk'}) :
   wpAny (model pw w) (ktrTop dp un gd cn cs L a ccd cl outer) (call (.ref 38) [.str (mkS x) tx, .ref d]) Q (fun _ _ => False) s := by
  have hdi := dO_is (w := w) (ep := ep) hn
  refine wpAny_call ?_
  k_dflt walk_at "MY ENTER"
  k_steps
  refine myStop ?_
  k_dflt (refine' For_turns (by k_asm) ?_)
  k_whole
  k_steps
  rename_i h3 hv F3 N3
  refine myStop ?_
  refine kv_items (l := l) (ep := ep) (by rfl) F3 N3 hv hm hn fun I hI => ?_
  refine my_rest (σ := RS) (keep := [(d, dO w l ep)]) kvItm (fun _ => []) (fun c => [(Str.ofString "s", .str (mkS c.x) c.t)]) (fun r c => ROk c.x r ∧ replAll c.x r = replAll x l) hI (fun _ _ h => nomatch h) (fun _ => subL_of fun p hp => by rw [List.mem_singleton.mp hp]; exact hm) ?turn ?fin l ⟨x, tx⟩ _ ⟨hok, rfl⟩ ?ffm
  case ffm => dsimp only; walk_at "MY FM"
  case turn =>
    rintro e r ⟨y, t⟩ u v h9 tk9 o ⟨⟨⟨r1, r2, r3, r4, r5, r6⟩, hok'⟩, hr⟩ ⟨T, tt, rfl, hT⟩ ho F5 N5 hne
    dsimp only at F5 N5 hT hr ⊢
    have hbq := beq_mkS r6
    k_steps
    refine' my_fend ⟨_, _⟩ ?fr ?nw ?hit ?led ?fm ?inv
    case fr => k_asm
    case nw => k_asm
    case hit => k_mem
    case led => exact fun p hp => .tail _ hp
    case fm => dsimp only; walk_at "MY FM"
    case inv => exact ⟨hok', hr⟩
  case fin =>
    rintro ⟨y, t⟩ u h9 tk9 ⟨_, hr⟩ F5 N5
    dsimp only at F5 N5 hr ⊢
    replace hr : y = replAll x l := hr
    subst hr
    k_steps
    refine hret _ _ _ ?kF ?kN
    case kF => k_asm
    case kN => k_asm
end Z2
local macro_rules | `(tactic| walk_at "call ref") => `(tactic| (k_here; (with_reducible show wpAny _ _ (call (Value.ref 38) [Value.str (mkS _) _, Value.ref _]) _ _ _); k_dflt (refine' dict_replace_call ?kh ?k0 ?k1 ?k2 ?k3 ?k4 ?k5 ?k6 ?k7 ?k8 ?k9 ?kA ?_; (case k6 => k_asm); (case kh => k_mem); (case k0 => assumption); (case k1 => assumption); (case k2 => assumption); (case k3 => k_asm); (case k4 => k_asm); (case k5 => k_asm); (case k7 => k_asm); (case k8 => exact rfl); (case k9 => ktr_room); (case kA => ktr_units); k_whole); intro t' h' tk' F' N'; (try k_sweep)))
noncomputable def cod (s : String) : List Nat := (Str.ofString s).cps.toList
theorem mkS_cod (s : String) : mkS (cod s) = Str.ofString s := by unfold mkS cod; simp
theorem rep_cc {w : World} {A : Around} {E Q : Value → Shared → Prop} {s : Shared} {x : List Nat} {y z : String} {t u v : Tok} (hu : @Ne Nat u 0) (hv : @Ne Nat v 0) (huv : @Ne Nat u v) (hyz : (Str.ofString y == Str.ofString z) = false) (hx : x.length ≤ 1048576) (hz : (Str.ofString z).length ≤ 14)
    (hq : ∀ t' k, Q (.str (mkS (repl x (cod y) (cod z))) t') { s with toks := k }) : wpAny (model pw w) A (call (.builtin "str.replace") [.str (mkS x) t, .str (Str.ofString y) u, .str (Str.ofString z) v]) Q E s := by
  refine SC.replaceW hu hv huv hyz (by rw [mkS_length]; exact hx) hz fun t' k => ?_
  rw [← mkS_cod y, ← mkS_cod z, mkS_repl]
  exact hq t' k
noncomputable def htm1 (x : List Nat) : List Nat := repl x (cod "&") (cod "&amp;")
noncomputable def htm2 (x : List Nat) : List Nat := repl (htm1 x) (cod ">") (cod "&gt;")
noncomputable def htm (x : List Nat) : List Nat := repl (htm2 x) (cod "<") (cod "&lt;")
noncomputable def unh1 (x : List Nat) : List Nat := repl x (cod "&lt;") (cod "<")
noncomputable def unh2 (x : List Nat) : List Nat := repl (unh1 x) (cod "&gt;") (cod ">")
noncomputable def unh3 (x : List Nat) : List Nat := repl x (cod "&amp;") (cod "&")
/- tokens that only grow -/
noncomputable def Keep (n : Nat) (s : Shared) (P : Prop) : Prop := n ≤ s.toks → P
theorem ex_keep {M : Model} {A : Around} {st : Stmt} {rest : List Stmt} {env : Env} {Q : Flow → Shared → Prop} {E : Value → Shared → Prop} {s : Shared}
    (h : wpAny M A (exec st env) (fun f s' => match f with | .next => Keep s.toks s' (wpAny M A (execs rest env) Q E s') | f => Q f s') E s) : wpAny M A (execs (st :: rest) env) Q E s := by
  refine wpAny_execs_cons (wpAny_mono (wpAny_toks_of (Nat.le_refl _) h) (fun f s' x => ?_) fun _ _ x => x.2)
  cases f with
  | next => exact x.2 x.1
  | ret v => exact x.2
  | brk => exact x.2
  | cont => exact x.2
theorem keep_go {M : Model} {A : Around} {t : Sem Flow} {Q : Flow → Shared → Prop} {E : Value → Shared → Prop} {n : Nat} {h : Heap} {g : Array GenState} {d : Drawn} {k : Nat} {os : OsState}
    (hh : ∀ tk, n ≤ tk → k = tk → wpAny M A t Q E ⟨h, g, d, tk, os⟩) : Keep n ⟨h, g, d, k, os⟩ (wpAny M A t Q E ⟨h, g, d, k, os⟩) := fun hn => hh k hn rfl
theorem truthy_kv {w : World} {A : Around} {E : Value → Shared → Prop} {Q : Bool → Shared → Prop} {s : Shared} {h₀ : Heap} {L d : Addr} {news : List (Addr × Obj)} {e : KV} {l : List KV} {ep : Nat} (N : News h₀ L s.heap news) (hm : (d, dO w (e :: l) ep) ∈ news) (hn : ((e :: l).map KV.k).Nodup) (hds : (d == sysModules) = false) (hl : l.length ≤ 100) (h : Q true { s with toks := s.toks + 1 + 1 }) :
    wpAny (model pw w) A (truthy (.ref d)) Q E s :=
  wpAny_truthy_dict hds (kda_dict N hm (dO_is (w := w) (ep := ep) hn)) (by rw [kvP_length, List.length_cons]; omega) h
theorem truthy_48 {w : World} {A : Around} {E : Value → Shared → Prop} {Q : Bool → Shared → Prop} {s : Shared} {h₀ : Heap} {L : Addr} {m : Str → Option Value} (F : Fr h₀ L s.heap m) (KX : (hd0.heap_1 w.params).In h₀) (h : Q false { s with toks := s.toks + 1 + 1 }) :
    wpAny (model pw w) A (truthy (.ref 48)) Q E s := by
  have e : (hd0.heap_1 w.params).lookup 48 = some { cls := .type "dict", data := .dict #[] 0 } := by kernel_rfl
  have ho := KX.keeps F.keep 48 _ e
  exact wpAny_truthy_dict (knd := strKind pw w) (kvs := []) (by decide) ⟨_, #[], 0, ho, ⟨rfl, rfl, rfl⟩, rfl, fun e he => by simp at he, .nil, .nil⟩ (by decide) h
local macro_rules | `(tactic| walk_at "call builtin:str.replace") => `(tactic| (k_here; (with_reducible show wpAny _ _ (call (Value.builtin "str.replace") [Value.str (mkS _) _, Value.str (Str.ofString _) _, Value.str (Str.ofString _) _]) _ _ _); k_dflt (refine' rep_cc ?k1 ?k2 ?k3 ?k4 ?k5 ?k6 ?_; (case k1 => ((show @Ne Nat _ _); omega)); (case k2 => ((show @Ne Nat _ _); omega)); (case k3 => ((show @Ne Nat _ _); omega)); (case k4 => decide); (case k5 => assumption); (case k6 => decide); k_whole); intro _ _))
section Z3
local macro_rules | `(tactic| walk_at "execs cons") => `(tactic| (k_here; (with_reducible refine ex_keep ?_); (try dsimp only)))
local macro_rules | `(tactic| walk_at "Keep") => `(tactic| ((refine keep_go ?_); intro tk htk etk; (try dsimp only at htk etk)))
local macro_rules | `(tactic| walk_at "truthy ref") => `(tactic| (k_here; (with_reducible show wpAny _ _ (truthy (Value.ref _)) _ _ _); k_dflt (refine' truthy_kv ?k1 ?k2 ?k3 ?k4 ?k5 ?_; (case k1 => k_asm); (case k2 => k_mem); (case k3 => assumption); (case k4 => assumption); (case k5 => assumption); k_whole)))
local macro_rules | `(tactic| walk_at "truthy ref") => `(tactic| (k_here; (with_reducible show wpAny _ _ (truthy (Value.ref 48)) _ _ _); k_dflt (refine' truthy_48 ?k1 ?k2 ?_; (case k1 => k_asm); (case k2 => k_asm); k_whole)))
set_option maxRecDepth 100000 in
set_option maxHeartbeats 0 in
theorem escape_call {w : World} {p : Program} {loose : List Str} {mean : ExcName → Option Value} {mg mb : Str → Option Value} {dp un : Nat} {gd : Option (List Code)} {cn : Str} {cs : Scope} {a : Addr} {ccd : Value} {cl : List (Str × Addr)} {outer : List Env} {A₀ : Around} {base h₀ : Heap} {L : Addr} {m : Str → Option Value} {news : List (Addr × Obj)} {s : Shared} {Q : Value → Shared → Prop} {x : List Nat} {tx : Tok} {d : Addr} {e : KV} {l : List KV} {ep : Nat}
  (hm : (d, dO w (e :: l) ep) ∈ news) (hn : ((e :: l).map KV.k).Nodup) (hok : ROk (htm x) (e :: l)) (hds : (d == sysModules) = false) (hl : l.length ≤ 100) (hx0 : x.length ≤ 1048576) (hx1 : (htm1 x).length ≤ 1048576) (hx2 : (htm2 x).length ≤ 1048576)
  (B : Below A₀ base outer h₀) (F : Fr h₀ L s.heap m) (KX : (hd0.heap_1 w.params).In h₀) (N : News h₀ L s.heap news) (T : Top p loose mean mg mb h₀) (hk : cs.kind = .function)
  (hd : dp + 10 < recursionLimit) (hu : un + 80 < cLine)
  (ht1 : 1 ≤ s.toks) (hret : ∀ t h' tk', Fr h₀ L h' m → News h₀ L h' news → Q (.str (mkS (replAll (htm x) (e :: l))) t) {s with heap := h', toks := tk'}) :
   wpAny (model pw w) (ktrTop dp un gd cn cs L a ccd cl outer) (call (.ref 47) [.str (mkS x) tx, .ref d]) Q (fun _ _ => False) s := by
  refine wpAny_call ?_
  unfold htm htm2 htm1 at *
  k_dflt walk_at "MY ENTER"
  k_steps
  exact hret _ _ _ (by assumption) (by assumption)
set_option maxRecDepth 100000 in
set_option maxHeartbeats 0 in
theorem unescape_call {w : World} {p : Program} {loose : List Str} {mean : ExcName → Option Value} {mg mb : Str → Option Value} {dp un : Nat} {gd : Option (List Code)} {cn : Str} {cs : Scope} {a : Addr} {ccd : Value} {cl : List (Str × Addr)} {outer : List Env} {A₀ : Around} {base h₀ : Heap} {L : Addr} {m : Str → Option Value} {news : List (Addr × Obj)} {s : Shared} {Q : Value → Shared → Prop} {x : List Nat} {tx : Tok} {d : Addr} {e : KV} {l : List KV} {ep : Nat}
  (hm : (d, dO w (e :: l) ep) ∈ news) (hn : ((e :: l).map KV.k).Nodup) (hok : ROk (unh2 x) (e :: l)) (hds : (d == sysModules) = false) (hl : l.length ≤ 100) (hx0 : x.length ≤ 1048576) (hx1 : (unh1 x).length ≤ 1048576) (hx2 : (replAll (unh2 x) (e :: l)).length ≤ 1048576)
  (B : Below A₀ base outer h₀) (F : Fr h₀ L s.heap m) (KX : (hd0.heap_1 w.params).In h₀) (N : News h₀ L s.heap news) (T : Top p loose mean mg mb h₀) (hk : cs.kind = .function)
  (hd : dp + 10 < recursionLimit) (hu : un + 80 < cLine)
  (ht1 : 1 ≤ s.toks) (hret : ∀ t h' tk', Fr h₀ L h' m → News h₀ L h' news → Q (.str (mkS (unh3 (replAll (unh2 x) (e :: l)))) t) {s with heap := h', toks := tk'}) :
   wpAny (model pw w) (ktrTop dp un gd cn cs L a ccd cl outer) (call (.ref 56) [.str (mkS x) tx, .ref d]) Q (fun _ _ => False) s := by
  refine wpAny_call ?_
  unfold unh3 unh2 unh1 at *
  k_dflt walk_at "MY ENTER"
  k_steps
  exact hret _ _ _ (by assumption) (by assumption)
set_option maxRecDepth 100000 in
set_option maxHeartbeats 0 in
theorem unescape_call1 {w : World} {p : Program} {loose : List Str} {mean : ExcName → Option Value} {mg mb : Str → Option Value} {dp un : Nat} {gd : Option (List Code)} {cn : Str} {cs : Scope} {a : Addr} {ccd : Value} {cl : List (Str × Addr)} {outer : List Env} {A₀ : Around} {base h₀ : Heap} {L : Addr} {m : Str → Option Value} {news : List (Addr × Obj)} {s : Shared} {Q : Value → Shared → Prop} {x : List Nat} {tx : Tok}
  (hx0 : x.length ≤ 1048576) (hx1 : (unh1 x).length ≤ 1048576) (hx2 : (unh2 x).length ≤ 1048576)
  (B : Below A₀ base outer h₀) (F : Fr h₀ L s.heap m) (KX : (hd0.heap_1 w.params).In h₀) (N : News h₀ L s.heap news) (T : Top p loose mean mg mb h₀) (hk : cs.kind = .function)
  (hd : dp + 10 < recursionLimit) (hu : un + 80 < cLine)
  (ht1 : 1 ≤ s.toks) (hret : ∀ t h' tk', Fr h₀ L h' m → News h₀ L h' news → Q (.str (mkS (unh3 (unh2 x))) t) {s with heap := h', toks := tk'}) :
   wpAny (model pw w) (ktrTop dp un gd cn cs L a ccd cl outer) (call (.ref 56) [.str (mkS x) tx]) Q (fun _ _ => False) s := by
  refine wpAny_call ?_
  unfold unh3 unh2 unh1 at *
  k_dflt walk_at "MY ENTER"
  k_steps
  exact hret _ _ _ (by assumption) (by assumption)
end Z3
/- the order of the five signs, with their tokens -/
noncomputable def ordA (o : List (Nat × Tok)) : Array Value := (o.map fun p => Value.str (mkS [p.1]) p.2).toArray
noncomputable def ordC (o : List (Nat × Tok)) : List Nat := o.map Prod.fst
noncomputable def isS (x : Str) : Value → Bool
  | .str y _ => y == x
  | _ => false
theorem index_ord {w : World} {A : Around} {E Q : Value → Shared → Prop} {s : Shared} {h₀ : Heap} {L lo : Addr} {news : List (Addr × Obj)} {o : List (Nat × Tok)} {n : Nat} {c : Nat} {x : Str} {t : Tok}
    (N : News h₀ L s.heap news) (hm : (lo, listOf (ordA o) n) ∈ news) (hx : x = mkS [c]) (hc : c ∈ ordC o) (hz : o.length ≤ 1000) (h : Q (.int ((ordC o).idxOf c : Nat) s.toks) { s with toks := s.toks + 1 }) :
    wpAny (model pw w) A (call (.builtin "list.index") [.ref lo, .str x t]) Q E s := by
  have ho := N.get hm
  have hlt : (ordC o).idxOf c < (ordC o).length := List.idxOf_lt_length_iff.mpr hc
  have hl : (ordC o).length = o.length := by unfold ordC; simp
  have hs : (ordA o).size = o.length := by unfold ordA; simp
  have hat : ∀ i (hi : i < (ordA o).size), isS x (ordA o)[i] = decide ((ordC o)[i]'(by omega) = c) := by
    intro i hi
    have e : (ordA o)[i] = Value.str (mkS [(ordC o)[i]'(by omega)]) (o[i]'(by omega)).2 := by simp [ordA, ordC]
    rw [e, hx]
    show (mkS _ == mkS [c]) = _
    by_cases hcc : (ordC o)[i]'(by omega) = c
    · rw [hcc]; simp
    · rw [decide_eq_false hcc]
      exact beq_eq_false_iff_ne.mpr fun q => hcc (by simpa using mkS_inj q)
  refine call_meets PySem.F.slot_list_index ⟨_, ho, rfl⟩ PySem.F.entry_list_index (PySem.F.args_list_index_2 _ _)
    (SeqAt.list_indexAt lo (ordA o) n none #[] (.str x t) (isS x) ((ordC o).idxOf c) (by omega) (by omega) ?_ ?_) ⟨ho, fun y hy => ?_, h⟩
  · rw [hat _ (by omega)]
    simp
  · intro i hi hlt'
    rw [hat i hi]
    refine decide_eq_false fun q => ?_
    have := List.not_of_lt_findIdx (p := fun z => z == c) (xs := ordC o) (i := i) hlt'
    simp [q] at this
  · obtain ⟨p, _, rfl⟩ := List.mem_map.mp (List.mem_toArray.mp hy)
    exact SeqAt.EqAt.str_str _ _ _ _
noncomputable def rowS (c : Nat) (ord : List Nat) : List PPart :=
  if ord.idxOf 91 < ord.idxOf c then [some [91, c, 93]] else [some [91, 92, 91, 93], if c = 42 then none else some [46], some [92, 93]]
noncomputable def entOf (c : Nat) : List Nat := if c = 38 then [97, 109, 112, 59] else if c = 60 then [108, 116, 59] else [103, 116, 59]
noncomputable def rowOf (c : Nat) (ord : List Nat) (wr : Bool) : List PPart :=
  if c = 37 then (if ord.idxOf 42 < ord.idxOf 37 then [none] else rowS 42 ord)
  else if c = 95 then (if ord.idxOf 63 < ord.idxOf 95 then [some [46]] else rowS 63 ord)
  else if c = 91 then [some [91, 92, 91, 93]]
  else if c = 42 ∨ c = 63 then rowS c ord
  else if wr && [38, 60, 62].contains c then [some ([92, 38] ++ entOf c)]
  else if [93, 45, 94, 92, 46, 126, 35, 32, 10, 38].contains c then [some [92, c]] else [some [c]]
noncomputable def rowT (c : Nat) (wr : Bool) : List Nat :=
  if c = 91 then [91, 92, 91, 93] else if wr && [38, 60, 62].contains c then [92, 38] ++ entOf c else if [93, 45, 94, 92, 46, 126, 35, 32, 10, 38].contains c then [92, c] else [c]
theorem rowOf_T {c : Nat} {ord : List Nat} {wr : Bool} (h : ¬ (c = 37 ∨ c = 95)) (h' : ¬ (c = 42 ∨ c = 63)) : rowOf c ord wr = [some (rowT c wr)] := by
  unfold rowOf rowT
  rw [if_neg (fun q => h (.inl q)), if_neg (fun q => h (.inr q)), if_neg h']
  split
  · rfl
  · split
    · rfl
    · split <;> rfl
noncomputable def alph : List Nat := [37, 95, 91, 42, 63, 38, 60, 62, 93, 33, 45, 94, 92, 97, 46, 126, 35, 32, 10, 59]
/-- a list's values are these items -/
noncomputable def IsIt (v : Value) (p : PPart) : Prop := match p with
  | none => v = .none
  | some l => ∃ t, v = .str (mkS l) t
noncomputable def ItsAre : List Value → List PPart → Prop
  | [], [] => True
  | v :: vs, p :: ps => IsIt v p ∧ ItsAre vs ps
  | _, _ => False
theorem ItsAre.append : ∀ {vs vs' : List Value} {ps ps' : List PPart}, ItsAre vs ps → ItsAre vs' ps' → ItsAre (vs ++ vs') (ps ++ ps')
  | [], _, [], _, _, h' => h'
  | _ :: _, _, _ :: _, _, h, h' => ⟨h.1, ItsAre.append h.2 h'⟩
theorem ItsAre.length : ∀ {vs : List Value} {ps : List PPart}, ItsAre vs ps → vs.length = ps.length
  | [], [], _ => rfl
  | _ :: _, _ :: _, h => by rw [List.length_cons, List.length_cons, ItsAre.length h.2]
theorem isIt_of {x : Str} {l : List Nat} {t : Tok} (h : x = mkS l) : IsIt (.str x t) (some l) := ⟨t, by rw [h]⟩
local macro_rules | `(tactic| walk_at "ite") => `(tactic| with_reducible first | (refine ite_b_true rfl ?_) | (refine ite_b_false rfl ?_))
local macro_rules | `(tactic| walk_at "call builtin:list.index") => `(tactic| (k_here; (with_reducible show wpAny _ _ (call (Value.builtin _) [Value.ref _, Value.str _ _]) _ _ _); k_dflt (refine' index_ord ?k1 ?k2 ?k3 ?k4 ?k5 ?_; (case k1 => k_asm); (case k2 => k_mem); (case k3 => first | exact (show _ = mkS [37] by decide) | exact (show _ = mkS [42] by decide) | exact (show _ = mkS [95] by decide) | exact (show _ = mkS [63] by decide) | exact (show _ = mkS [91] by decide)); (case k4 => assumption); (case k5 => assumption); k_whole)))
local macro_rules | `(tactic| walk_at "MY ITS") => `(tactic| (repeat' (first | exact trivial | exact (show IsIt Value.none none from rfl) | exact isIt_of (by decide) | refine And.intro ?_ ?_)))
set_option maxRecDepth 100000 in
set_option maxHeartbeats 0 in
theorem row_star {w : World} {p : Program} {loose : List Str} {mean : ExcName → Option Value} {mg mb : Str → Option Value} {dp un : Nat} {gd : Option (List Code)} {cn : Str} {cs : Scope} {a : Addr} {ccd : Value} {cl : List (Str × Addr)} {outer : List Env} {A₀ : Around} {base h₀ : Heap} {L : Addr} {m : Str → Option Value} {news : List (Addr × Obj)} {s : Shared} {Q : Value → Shared → Prop} {c : Nat} {t : Tok} {lo : Addr} {o : List (Nat × Tok)} {n : Nat} {wr : Bool}
  (hc : c = 42 ∨ c = 63) (hoc : c ∈ ordC o) (hob : 91 ∈ ordC o) (hoz : o.length ≤ 1000) (hm : (lo, listOf (ordA o) n) ∈ news)
  (B : Below A₀ base outer h₀) (F : Fr h₀ L s.heap m) (KX : (hd0.heap_1 w.params).In h₀) (N : News h₀ L s.heap news) (T : Top p loose mean mg mb h₀) (hk : cs.kind = .function)
  (hd : dp + 5 < recursionLimit) (hu : un + 40 < cLine)
  (hret : ∀ l its n h' tk', Fr h₀ L h' m → News h₀ L h' ((l, listOf its n) :: news) → AllNe l news → ItsAre its.toList (rowS c (ordC o)) → Q (.ref l) {s with heap := h', toks := tk'}) :
   wpAny (model pw w) (ktrTop dp un gd cn cs L a ccd cl outer) (call (.ref 116) [.str (mkS [c]) t, .ref lo, .bool wr]) Q (fun _ _ => False) s := by
  by_cases hx : (ordC o).idxOf 91 < (ordC o).idxOf c
  all_goals rcases hc with rfl | rfl
  all_goals refine wpAny_call ?_
  all_goals k_dflt walk_at "MY ENTER"
  all_goals k_steps
  all_goals exact hret _ _ _ _ _ (by assumption) (by assumption) (allNe_mk (allNe_of_lt (by assumption))) (by unfold rowS; (first | rw [if_pos hx] | rw [if_neg hx]); walk_at "MY ITS")
theorem row_star2 {w : World} {p : Program} {loose : List Str} {mean : ExcName → Option Value} {mg mb : Str → Option Value} {dp un : Nat} {gd : Option (List Code)} {cn : Str} {cs : Scope} {a : Addr} {ccd : Value} {cl : List (Str × Addr)} {outer : List Env} {A₀ : Around} {base h₀ : Heap} {L : Addr} {m : Str → Option Value} {news : List (Addr × Obj)} {s : Shared} {Q : Value → Shared → Prop} {c : Nat} {t : Tok} {x : Str} {lo : Addr} {o : List (Nat × Tok)} {n : Nat} {wr : Bool}
  (hx : x = mkS [c]) (hc : c = 42 ∨ c = 63) (hoc : c ∈ ordC o) (hob : 91 ∈ ordC o) (hoz : o.length ≤ 1000) (hm : (lo, listOf (ordA o) n) ∈ news)
  (B : Below A₀ base outer h₀) (F : Fr h₀ L s.heap m) (KX : (hd0.heap_1 w.params).In h₀) (N : News h₀ L s.heap news) (T : Top p loose mean mg mb h₀) (hk : cs.kind = .function)
  (hd : dp + 5 < recursionLimit) (hu : un + 40 < cLine)
  (hret : ∀ l its n h' tk', Fr h₀ L h' m → News h₀ L h' ((l, listOf its n) :: news) → AllNe l news → ItsAre its.toList (rowS c (ordC o)) → Q (.ref l) {s with heap := h', toks := tk'}) :
   wpAny (model pw w) (ktrTop dp un gd cn cs L a ccd cl outer) (call (.ref 116) [.str x t, .ref lo, .bool wr]) Q (fun _ _ => False) s := by
  subst hx
  exact row_star hc hoc hob hoz hm B F KX N T hk hd hu hret
local macro_rules | `(tactic| walk_at "PAD") => `(tactic| fail)
section Z5
local macro_rules | `(tactic| walk_at "ite") => `(tactic| with_reducible first | (refine ite_b_false (by assumption) ?_) | (refine ite_b_true (by assumption) ?_))
set_option maxRecDepth 100000 in
set_option maxHeartbeats 0 in
theorem row_gen {w : World} {p : Program} {loose : List Str} {mean : ExcName → Option Value} {mg mb : Str → Option Value} {dp un : Nat} {gd : Option (List Code)} {cn : Str} {cs : Scope} {a : Addr} {ccd : Value} {cl : List (Str × Addr)} {outer : List Env} {A₀ : Around} {base h₀ : Heap} {L : Addr} {m : Str → Option Value} {news : List (Addr × Obj)} {s : Shared} {Q : Value → Shared → Prop} {c : Nat} {t : Tok} {lo : Addr} {wr b2 : Bool}
  (e37 : (mkS [c] == Str.ofString "%") = false) (e95 : (mkS [c] == Str.ofString "_") = false) (e91 : (mkS [c] == Str.ofString "[") = false) (e42 : (mkS [c] == Str.ofString "*") = false) (e63 : (mkS [c] == Str.ofString "?") = false)
  (hA : wr = true → (Builtin.Str.occurrences (Str.ofString "&<>") (mkS [c]) 0 (Str.ofString "&<>").length 1).isEmpty = true) (hB : (Builtin.Str.occurrences (Str.ofString "]-^\\.~# \n&") (mkS [c]) 0 (Str.ofString "]-^\\.~# \n&").length 1).isEmpty = b2)
  (B : Below A₀ base outer h₀) (F : Fr h₀ L s.heap m) (KX : (hd0.heap_1 w.params).In h₀) (N : News h₀ L s.heap news) (T : Top p loose mean mg mb h₀) (hk : cs.kind = .function)
  (hd : dp + 10 < recursionLimit) (hu : un + 80 < cLine)
  (hret : ∀ l its n h' tk', Fr h₀ L h' m → News h₀ L h' ((l, listOf its n) :: news) → AllNe l news → ItsAre its.toList [some (if b2 = true then [c] else [92, c])] → Q (.ref l) {s with heap := h', toks := tk'}) :
   wpAny (model pw w) (ktrTop dp un gd cn cs L a ccd cl outer) (call (.ref 116) [.str (mkS [c]) t, .ref lo, .bool wr]) Q (fun _ _ => False) s := by
  have hA2 : Str.ofString "\\" ++ mkS [c] = mkS [92, c] := by rw [show Str.ofString "\\" = mkS [92] by decide, mkS_append]; rfl
  have hc1 : (mkS [c]).length ≤ 10 := by rw [mkS_length]; exact Nat.le_of_ble_eq_true rfl
  cases wr
  · cases b2
    · refine wpAny_call ?_
      k_dflt walk_at "MY ENTER"
      k_steps
      exact hret _ _ _ _ _ (by assumption) (by assumption) (allNe_mk (allNe_of_lt (by assumption))) (by exact ⟨isIt_of hA2, trivial⟩)
    · refine wpAny_call ?_
      k_dflt walk_at "MY ENTER"
      k_steps
      exact hret _ _ _ _ _ (by assumption) (by assumption) (allNe_mk (allNe_of_lt (by assumption))) (by exact ⟨isIt_of rfl, trivial⟩)
  · replace hA := hA rfl
    cases b2
    · refine wpAny_call ?_
      k_dflt walk_at "MY ENTER"
      k_steps
      exact hret _ _ _ _ _ (by assumption) (by assumption) (allNe_mk (allNe_of_lt (by assumption))) (by exact ⟨isIt_of hA2, trivial⟩)
    · refine wpAny_call ?_
      k_dflt walk_at "MY ENTER"
      k_steps
      exact hret _ _ _ _ _ (by assumption) (by assumption) (allNe_mk (allNe_of_lt (by assumption))) (by exact ⟨isIt_of rfl, trivial⟩)
end Z5
section Z6
local macro_rules | `(tactic| walk_at "ite") => `(tactic| (k_closed; k_dflt (first | (refine ite_b_true (by decide +kernel) ?_) | (refine ite_b_false (by decide +kernel) ?_))))
local macro_rules | `(tactic| walk_at "ite") => `(tactic| with_reducible first | (refine ite_b_true rfl ?_) | (refine ite_b_false rfl ?_))
set_option maxRecDepth 100000 in
set_option maxHeartbeats 0 in
theorem row_ent {w : World} {p : Program} {loose : List Str} {mean : ExcName → Option Value} {mg mb : Str → Option Value} {dp un : Nat} {gd : Option (List Code)} {cn : Str} {cs : Scope} {a : Addr} {ccd : Value} {cl : List (Str × Addr)} {outer : List Env} {A₀ : Around} {base h₀ : Heap} {L : Addr} {m : Str → Option Value} {news : List (Addr × Obj)} {s : Shared} {Q : Value → Shared → Prop} {c : Nat} {t : Tok} {lo : Addr} 
  (hc : c = 38 ∨ c = 60 ∨ c = 62) 
  (B : Below A₀ base outer h₀) (F : Fr h₀ L s.heap m) (KX : (hd0.heap_1 w.params).In h₀) (N : News h₀ L s.heap news) (T : Top p loose mean mg mb h₀) (hk : cs.kind = .function)
  (hd : dp + 10 < recursionLimit) (hu : un + 80 < cLine)
  (hret : ∀ l its n h' tk', Fr h₀ L h' m → News h₀ L h' ((l, listOf its n) :: news) → AllNe l news → ItsAre its.toList [some (rowT c true)] → Q (.ref l) {s with heap := h', toks := tk'}) :
   wpAny (model pw w) (ktrTop dp un gd cn cs L a ccd cl outer) (call (.ref 116) [.str (mkS [c]) t, .ref lo, (.bool true)]) Q (fun _ _ => False) s := by
  rcases hc with rfl | rfl | rfl
  all_goals refine wpAny_call ?_
  all_goals k_dflt walk_at "MY ENTER"
  all_goals k_steps
  all_goals exact hret _ _ _ _ _ (by assumption) (news_sub _ (by assumption) (fun q hq => by rcases List.mem_cons.mp hq with h | h; exact h ▸ .head _; exact .tail _ (.tail _ h))) (allNe_mk (allNe_of_lt (by assumption))) (by exact ⟨isIt_of (by decide), trivial⟩)
end Z6
section Z7
local macro_rules | `(tactic| walk_at "call ref") => `(tactic| (k_here; (with_reducible show wpAny _ _ (call (Value.ref 116) [Value.str (Str.ofString _) _, Value.ref _, Value.bool _]) _ _ _); k_dflt (first
  | (refine' row_star2 (c := 42) (by decide) (.inl rfl) ?k1 ?k2 ?k3 ?k4 ?k5 ?k6 ?k7 ?k8 ?k9 ?kA ?kB ?kC ?_; (case k8 => k_asm); (case k1 => assumption); (case k2 => assumption); (case k3 => assumption); (case k4 => k_mem); (case k5 => k_asm); (case k6 => k_asm); (case k7 => k_asm); (case k9 => k_asm); (case kA => exact rfl); (case kB => ktr_room); (case kC => ktr_units); k_whole)
  | (refine' row_star2 (c := 63) (by decide) (.inr rfl) ?k1 ?k2 ?k3 ?k4 ?k5 ?k6 ?k7 ?k8 ?k9 ?kA ?kB ?kC ?_; (case k8 => k_asm); (case k1 => assumption); (case k2 => assumption); (case k3 => assumption); (case k4 => k_mem); (case k5 => k_asm); (case k6 => k_asm); (case k7 => k_asm); (case k9 => k_asm); (case kA => exact rfl); (case kB => ktr_room); (case kC => ktr_units); k_whole)); intro l' its' n' h' tk' F' N' hl' hi'; (try k_sweep)))
set_option maxRecDepth 100000 in
set_option maxHeartbeats 0 in
theorem law_row_call {w : World} {p : Program} {loose : List Str} {mean : ExcName → Option Value} {mg mb : Str → Option Value} {dp un : Nat} {gd : Option (List Code)} {cn : Str} {cs : Scope} {a : Addr} {ccd : Value} {cl : List (Str × Addr)} {outer : List Env} {A₀ : Around} {base h₀ : Heap} {L : Addr} {m : Str → Option Value} {news : List (Addr × Obj)} {s : Shared} {Q : Value → Shared → Prop} {c : Nat} {t : Tok} {lo : Addr} {o : List (Nat × Tok)} {n : Nat} {wr : Bool}
  (hc : c ∈ alph) (h42 : 42 ∈ ordC o) (h63 : 63 ∈ ordC o) (h37 : 37 ∈ ordC o) (h95 : 95 ∈ ordC o) (hob : 91 ∈ ordC o) (hoz : o.length ≤ 1000) (hm : (lo, listOf (ordA o) n) ∈ news)
  (B : Below A₀ base outer h₀) (F : Fr h₀ L s.heap m) (KX : (hd0.heap_1 w.params).In h₀) (N : News h₀ L s.heap news) (T : Top p loose mean mg mb h₀) (hk : cs.kind = .function)
  (hd : dp + 10 < recursionLimit) (hu : un + 80 < cLine)
  (hret : ∀ l its n h' tk', Fr h₀ L h' m → News h₀ L h' ((l, listOf its n) :: news) → AllNe l news → ItsAre its.toList (rowOf c (ordC o) wr) → Q (.ref l) {s with heap := h', toks := tk'}) :
   wpAny (model pw w) (ktrTop dp un gd cn cs L a ccd cl outer) (call (.ref 116) [.str (mkS [c]) t, .ref lo, .bool wr]) Q (fun _ _ => False) s := by
  by_cases hp : c = 37 ∨ c = 95
  · rcases hp with rfl | rfl
    · by_cases hx : (ordC o).idxOf 42 < (ordC o).idxOf 37
      · have e : rowOf 37 (ordC o) wr = [none] := by unfold rowOf; rw [if_pos rfl, if_pos hx]
        rw [e] at hret
        refine wpAny_call ?_
        k_dflt walk_at "MY ENTER"
        k_steps
        exact hret _ _ _ _ _ (by assumption) (by assumption) (allNe_mk (allNe_of_lt (by assumption))) (by walk_at "MY ITS")
      · have e : rowOf 37 (ordC o) wr = rowS 42 (ordC o) := by unfold rowOf; rw [if_pos rfl, if_neg hx]
        rw [e] at hret
        refine wpAny_call ?_
        k_dflt walk_at "MY ENTER"
        k_steps
        exact hret _ _ _ _ _ (by assumption) (by assumption) (by assumption) (by assumption)
    · by_cases hx : (ordC o).idxOf 63 < (ordC o).idxOf 95
      · have e : rowOf 95 (ordC o) wr = [some [46]] := by unfold rowOf; rw [if_neg (by decide), if_pos rfl, if_pos hx]
        rw [e] at hret
        refine wpAny_call ?_
        k_dflt walk_at "MY ENTER"
        k_steps
        exact hret _ _ _ _ _ (by assumption) (by assumption) (allNe_mk (allNe_of_lt (by assumption))) (by walk_at "MY ITS")
      · have e : rowOf 95 (ordC o) wr = rowS 63 (ordC o) := by unfold rowOf; rw [if_neg (by decide), if_pos rfl, if_neg hx]
        rw [e] at hret
        refine wpAny_call ?_
        k_dflt walk_at "MY ENTER"
        k_steps
        exact hret _ _ _ _ _ (by assumption) (by assumption) (by assumption) (by assumption)
  by_cases hs : c = 42 ∨ c = 63
  · refine row_star hs (by rcases hs with rfl | rfl <;> assumption) hob hoz hm B F KX N T hk (by omega) (by omega) fun l its n h' tk' F' N' hl hi => hret l its n h' tk' F' N' hl ?_
    unfold rowOf
    rcases hs with rfl | rfl
    · rw [if_neg (by decide), if_neg (by decide), if_neg (by decide), if_pos (by decide)]; exact hi
    · rw [if_neg (by decide), if_neg (by decide), if_neg (by decide), if_pos (by decide)]; exact hi
  rw [rowOf_T hp hs] at hret
  simp only [alph, List.mem_cons, List.not_mem_nil, or_false] at hc
  clear h42 h63 h37 h95 hob hoz
  rcases hc with rfl | rfl | rfl | rfl | rfl | rfl | rfl | rfl | rfl | rfl | rfl | rfl | rfl | rfl | rfl | rfl | rfl | rfl | rfl | rfl
  · exact absurd (.inl rfl) hp
  · exact absurd (.inr rfl) hp
  · clear hp hs
    refine wpAny_call ?_
    k_dflt walk_at "MY ENTER"
    k_steps
    exact hret _ _ _ _ _ (by assumption) (by assumption) (allNe_mk (allNe_of_lt (by assumption))) (by exact ⟨isIt_of (show Str.ofString "[\\[]" = mkS [91, 92, 91, 93] by decide), trivial⟩)
  · exact absurd (.inl rfl) hs
  · exact absurd (.inr rfl) hs
  · clear hp hs
    cases wr
    · exact row_gen (b2 := false) (by decide) (by decide) (by decide) (by decide) (by decide) (fun q => by cases q) (by decide +kernel) B F KX N T hk hd hu hret
    · exact row_ent (.inl rfl) B F KX N T hk hd hu hret
  · clear hp hs
    cases wr
    · exact row_gen (b2 := true) (by decide) (by decide) (by decide) (by decide) (by decide) (fun q => by cases q) (by decide +kernel) B F KX N T hk hd hu hret
    · exact row_ent (.inr (.inl rfl)) B F KX N T hk hd hu hret
  · clear hp hs
    cases wr
    · exact row_gen (b2 := true) (by decide) (by decide) (by decide) (by decide) (by decide) (fun q => by cases q) (by decide +kernel) B F KX N T hk hd hu hret
    · exact row_ent (.inr (.inr rfl)) B F KX N T hk hd hu hret
  all_goals clear hp hs
  all_goals cases wr
  all_goals first
    | exact row_gen (b2 := true) (by decide) (by decide) (by decide) (by decide) (by decide) (fun _ => by decide +kernel) (by decide +kernel) B F KX N T hk hd hu hret
    | exact row_gen (b2 := false) (by decide) (by decide) (by decide) (by decide) (by decide) (fun _ => by decide +kernel) (by decide +kernel) B F KX N T hk hd hu hret
end Z7
local macro_rules | `(tactic| walk_at "call ref") => `(tactic| (k_here; (with_reducible show wpAny _ _ (call (Value.ref 116) [Value.str (mkS [_]) _, Value.ref _, Value.bool _]) _ _ _); k_dflt (refine' law_row_call ?k0 ?k1 ?k2 ?k3 ?k4 ?k5 ?k6 ?k7 ?k8 ?k9 ?kA ?kB ?kC ?kD ?kE ?kF ?_; (case kB => k_asm); (case k0 => assumption); (case k1 => assumption); (case k2 => assumption); (case k3 => assumption); (case k4 => assumption); (case k5 => assumption); (case k6 => assumption); (case k7 => k_mem); (case k8 => k_asm); (case k9 => k_asm); (case kA => k_asm); (case kC => k_asm); (case kD => exact rfl); (case kE => ktr_room); (case kF => ktr_units); k_whole); intro l' its' n' h' tk' F' N' hl' hi'; (try k_sweep)))
local macro_rules | `(tactic| walk_at "PAD") => `(tactic| fail)
noncomputable def chItm (c : Nat) : Itm := .tok (fun u => .str (mkS [c]) u)
section
variable {w : World} {A : Around} {E : Value → Shared → Prop} {s : Shared} {env : Env} {h₀ : Heap} {body : List Stmt} {Q : Flow → Shared → Prop}
theorem str_items {nm : Str} {px : Pos} {l : List Nat} {t : Tok} {m₀ : Str → Option Value} {news : List (Addr × Obj)}
    (hh : A.handled = none) (F : Fr h₀ env.locals s.heap m₀) (N : News h₀ env.locals s.heap news) (ha : l.all (· < 128) = true)
    (rest₀ : ∀ I : Addr, (∀ p ∈ news, p.1 < I) → ItemsRest pw w A E h₀ env (.Name nm px) body Q s [(I, "str_ascii_iterator")] [] (l.map chItm) m₀ news) :
    wpAny (model pw w) A (pyIter (.str (mkS l) t)) (fun it s₂ => TurnsAt pw w A h₀ env (.Name nm px) body Q E it s₂) E s := by
  have ha' : (mkS l).cps.all (· < 128) = true := by unfold mkS; simpa using ha
  have hsz : (mkS l).cps.size = l.length := by simp [mkS]
  refine wpAny_pyIter_ascii ha' ?_
  refine ktu_core (tk0 := s.toks) (keep := []) (KTurns.ofWalks (Walks.strAscii hh s.heap.objs.size (mkS l) t) fun i v s Q E st q => wpAny_pure q) (by rw [hsz, List.length_map]) ?_ ?_ ?_ ?_ ?_ ?_ ?_ ?_ (F.push _) (fun p hp => ⟨Heap.get?_push_of_some _ (N p hp).1, (N p hp).2⟩) trivial (rest₀ _ fun p hp => Heap.lt_size (N p hp).1)
  · rintro i v h ⟨c, u, hx, rfl⟩
    have hx' : l[i]? = some c := by simpa [mkS] using hx
    exact ⟨chItm c, by rw [List.getElem?_map, hx']; rfl, u, rfl⟩
  · rintro i h st
    obtain ⟨o, ho, hc, _⟩ := st
    exact ⟨[(s.heap.objs.size, o)], ⟨⟨rfl, hc⟩, trivial⟩, fun p hp => by rw [List.mem_singleton.mp hp]; exact ho⟩
  · intro b hb
    have hb' : b = s.heap.objs.size := by simpa using hb
    rw [hb']
    exact ⟨List.mem_cons_self .., next_is_new F⟩
  · intro b hb
    simpa using hb
  · intro b hb
    exact .inl (by simpa using hb)
  · intro hI
    have e : env.locals = s.heap.objs.size := by simpa using hI
    exact absurd F.ns.lt (e ▸ Nat.lt_irrefl _)
  · intro p hp hI
    exact absurd (Heap.lt_size (N p hp).1) ((List.mem_singleton.mp hI) ▸ Nat.lt_irrefl _)
  · exact ⟨_, Heap.get?_push_size _ rfl, rfl, rfl⟩
end
local macro_rules | `(tactic| walk_at "PAD") => `(tactic| fail)
theorem mapSeq_ext {its its2 : Array Value} {n : Nat} : ∃ n', Obj.mapSeq (fun x => x ++ its2) (listOf its n) = listOf (its ++ its2) n' := ⟨_, rfl⟩
theorem extend_K {w : World} {A : Around} {E : Value → Shared → Prop} {s : Shared} {h₀ : Heap} {L D b : Addr} {m : Str → Option Value} {news : List (Addr × Obj)} {g : Obj → List (Addr × Obj)} {its its2 : Array Value} {n n2 : Nat} {Q : Value → Shared → Prop}
    (F : Fr h₀ L s.heap m) (N : News h₀ L s.heap news) (hb : (b, listOf its2 n2) ∈ news) (U : UpdF D (listOf its n) news g)
    (hz : its.size ≤ 10000) (hz2 : its2.size ≤ 10000) (h : ∀ h' n', Fr h₀ L h' m → News h₀ L h' (g (listOf (its ++ its2) n')) → Q .none { s with heap := h' }) : wpAny (model pw w) A (call (.builtin "list.extend") [.ref D, .ref b]) Q E s := by
  obtain ⟨pre, post, hn, hg, h1, h2⟩ := U.split
  have hD : (D, listOf its n) ∈ news := by rw [hn]; exact List.mem_append_right _ (.head _)
  have z := N _ hD
  have zb := N _ hb
  obtain ⟨n', e⟩ := mapSeq_ext (its := its) (its2 := its2) (n := n)
  refine call_meets PySem.F.slot_list_extend ⟨_, z.1, rfl⟩ PySem.F.entry_list_extend (PySem.F.args_list_extend_2 _ _)
    (AutoSeq1.list_extend_list_list_0 D its n b its2 n2 ?_ (by have := sizeLine_eq; omega) (by have := sizeLine_eq; omega)) ⟨z.1, zb.1, h _ n' (F.change (Heap.SameBut.update ..) z.2.1 z.2.2) ?_⟩
  · have : Builtin.List.listTooLong (its.size + its2.size) = false := by unfold Builtin.List.listTooLong; have := sizeLine_eq; simp; omega
    rw [this, Bool.and_false]; exact Bool.false_ne_true
  · rw [hg]
    rw [hn] at N
    refine news_set N h1 h2 (Heap.SameBut.update ..) ?_
    rw [Heap.get?_update_self _ z.1 (by rw [e]; rfl), e]
theorem setItem_neg {prog : Program} {w : World} {A : Around} {E : Value → Shared → Prop} {s : Shared} {l : Addr} {items : Array Value} {n : Nat} {k : Int} {t : Tok} {v : Value} {Q : Unit → Shared → Prop} (ho : s.heap.get? l = some (listOf items n))
    (h0 : k < 0) (h1 : -(items.size : Int) ≤ k) (hfit : -(2 ^ 63) ≤ k)
    (hQ : Q () { s with heap := s.heap.update l (Obj.mapSeq (·.setIfInBounds (k + items.size).toNat v)) }) :
    wpAny (model prog w) A (setItem (.ref l) (.int k t) v) Q E s := by
  have hl : s.heap.IsList l items := ⟨_, ho, rfl, _, rfl⟩
  have hd : (listOf items n).data = .seq items n := rfl
  unfold setItem
  try with_reducible refine wpAny_holding ?_
  first | refine wpAny_bind (wpAny_pure ?_) | skip
  refine wpAny_bind (wpAny_sequenceKey hl.typeIs (by decide) ?_)
  refine wpAny_bind (wpAny_callSpecial?_slot (name := Str.ofString "__setitem__") hl.typeIs PySem.F.slot_list_setitem
    (wpAny_call_entry PySem.F.slot_list_setitem hl.typeIs PySem.F.entry_list_setitem ?_ (PySem.args_list_setitem _ _ _)))
  show wpAny _ _ (Builtin.List.listSubscript? (.int k t) >>= _) _ _ s
  refine wpAny_bind (wpAny_listSubscript_int (fitsIndex_neg h0 hfit) ?_)
  clear hfit
  have hidx := seqIndex_neg h0 h1
  have hj : (k + (items.size : Int)).toNat < items.size := by omega
  have hx : items[(k + (items.size : Int)).toNat]? = some items[(k + (items.size : Int)).toNat] := Array.getElem?_eq_getElem hj
  obtain ⟨j, rfl⟩ : ∃ j : Nat, k = Int.negSucc j := by
    cases k with
    | ofNat n => exact absurd h0 (Int.not_lt.mpr (Int.ofNat_nonneg n))
    | negSucc n => exact ⟨n, rfl⟩
  show wpAny _ _ ((Builtin.List.listItems (.ref l) >>= fun xs => pure ((seqIndex? (Int.negSucc j) xs.size).bind fun i => xs[i]?.map (i, ·))) >>= _) _ _ s
  refine wpAny_bind (wpAny_bind ?_)
  show wpAny _ _ (seqItems? (.ref l) >>= _) _ _ s
  refine wpAny_bind (wpAny_seqItems ho hd (wpAny_pure (wpAny_pure ?_)))
  rw [hidx]
  simp only [Option.bind_some, hx, Option.map_some]
  show wpAny _ _ (setSeqItemAt l _ v >>= _) _ _ s
  refine wpAny_bind (wpAny_setSeqItemAt ho hd ?_)
  first
    | exact wpAny_bind (wpAny_pure (wpAny_pure ⟨.none, rfl, wpAny_pure hQ⟩))
    | exact wpAny_pure ⟨.none, rfl, wpAny_pure hQ⟩

theorem setlast_K {w : World} {A : Around} {E : Value → Shared → Prop} {s : Shared} {h₀ : Heap} {L D : Addr} {m : Str → Option Value} {news : List (Addr × Obj)} {g : Obj → List (Addr × Obj)} {its : Array Value} {n : Nat} {k : Int} {t : Tok} {x v : Value} {vs : List Value} {Q : Unit → Shared → Prop}
    (F : Fr h₀ L s.heap m) (N : News h₀ L s.heap news) (U : UpdF D (listOf its n) news g) (hi : its.toList = vs ++ [x]) (hk : k = -1)
    (h : ∀ h' n', Fr h₀ L h' m → News h₀ L h' (g (listOf (vs ++ [v]).toArray n')) → Q () { s with heap := h' }) : wpAny (model pw w) A (setItem (.ref D) (.int k t) v) Q E s := by
  obtain ⟨pre, post, hn, hg, h1, h2⟩ := U.split
  have hD : (D, listOf its n) ∈ news := by rw [hn]; exact List.mem_append_right _ (.head _)
  have z := N _ hD
  have hsz : its.size = vs.length + 1 := by rw [← Array.length_toList, hi]; simp
  subst hk
  have e2 : its.setIfInBounds ((-1 : Int) + its.size).toNat v = (vs ++ [v]).toArray := by
    have e3 : ((-1 : Int) + its.size).toNat = vs.length := by omega
    rw [e3]
    apply Array.ext'
    rw [Array.toList_setIfInBounds, hi]
    simp
  obtain ⟨n', e⟩ : ∃ n', Obj.mapSeq (·.setIfInBounds ((-1 : Int) + its.size).toNat v) (listOf its n) = listOf (vs ++ [v]).toArray n' := ⟨_, by rw [← e2]; rfl⟩
  refine setItem_neg z.1 (by omega) (by omega) (by omega) (h _ n' (F.change (Heap.SameBut.update ..) z.2.1 z.2.2) ?_)
  rw [hg]
  rw [hn] at N
  refine news_set N h1 h2 (Heap.SameBut.update ..) ?_
  rw [Heap.get?_update_self _ z.1 (by rw [e]; rfl), e]
noncomputable def rgItm (i : Nat) : Itm := .tok (fun u => .int (i : Int) u)
section
variable {w : World} {A : Around} {E : Value → Shared → Prop} {s : Shared} {env : Env} {h₀ : Heap} {body : List Stmt} {Q : Flow → Shared → Prop}
theorem range_items {nm : Str} {px : Pos} {r : Addr} {n : Nat} {t₀ u₀ v₀ : Tok} {m₀ : Str → Option Value} {news : List (Addr × Obj)}
    (hh : A.handled = none) (F : Fr h₀ env.locals s.heap m₀) (N : News h₀ env.locals s.heap news) (hr : IsRange s.heap r 0 (n : Int) 1 t₀ u₀ v₀) (hn : n ≤ 10000)
    (rest₀ : ∀ I : Addr, (∀ p ∈ news, p.1 < I) → ItemsRest pw w A E h₀ env (.Name nm px) body Q s [(I, "range_iterator")] [] ((List.range' 0 n).map rgItm) m₀ news) :
    wpAny (model pw w) A (pyIter (.ref r)) (fun it s₂ => TurnsAt pw w A h₀ env (.Name nm px) body Q E it s₂) E s := by
  have hz : Builtin.Range.rangeSize 0 (n : Int) 1 = (n : Int) := by rw [rangeSize_one]; split <;> omega
  refine wpAny_pyIter_range hr (small_one (by omega) (by omega) (by omega) (by omega)) ?_
  refine ktu_core (tk0 := s.toks) (keep := []) (KTurns.ofWalks (Walks.range hh s.heap.objs.size 0 1 n).bound fun i v s Q E st q => wpAny_pure q) (by rw [List.length_map, List.length_range']) ?_ ?_ ?_ ?_ ?_ ?_ ?_ ?_ (F.push _) (fun p hp => ⟨Heap.get?_push_of_some _ (N p hp).1, (N p hp).2⟩) trivial (rest₀ _ fun p hp => Heap.lt_size (N p hp).1)
  · rintro i v h ⟨hlt, u, rfl⟩
    refine ⟨rgItm i, by rw [List.getElem?_map, List.getElem?_range' hlt]; simp, u, ?_⟩
    simp
  · rintro i h st
    exact ⟨[(s.heap.objs.size, _)], ⟨⟨rfl, rfl⟩, trivial⟩, fun p hp => by rw [List.mem_singleton.mp hp]; exact st⟩
  · intro b hb
    have hb' : b = s.heap.objs.size := by simpa using hb
    rw [hb']
    exact ⟨List.mem_cons_self .., next_is_new F⟩
  · intro b hb
    simpa using hb
  · intro b hb
    exact .inl (by simpa using hb)
  · intro hI
    have e : env.locals = s.heap.objs.size := by simpa using hI
    exact absurd F.ns.lt (e ▸ Nat.lt_irrefl _)
  · intro p hp hI
    exact absurd (Heap.lt_size (N p hp).1) ((List.mem_singleton.mp hI) ▸ Nat.lt_irrefl _)
  · show IsRangeIter _ _ _ _ _
    rw [hz]
    simpa using Heap.get?_push_size _ rfl
end
noncomputable def grps (P : List PPart) : List Grp := (splitG P).1 :: (splitG P).2
theorem grps_none : ∀ P : List PPart, grps (P ++ [none]) = grps P ++ [[]]
  | [] => rfl
  | none :: r => by
    have := grps_none r
    unfold grps at this ⊢
    simp only [List.cons_append, splitG] at this ⊢
    rw [this]
  | some l :: r => by
    have := grps_none r
    unfold grps at this ⊢
    simp only [List.cons_append, splitG, List.cons.injEq] at this ⊢
    exact ⟨⟨trivial, this.1⟩, this.2⟩
theorem grps_some (l : List Nat) : ∀ P : List PPart, ∃ A b, grps P = A ++ [b] ∧ grps (P ++ [some l]) = A ++ [b ++ [l]]
  | [] => ⟨[], [], rfl, rfl⟩
  | none :: r => by
    obtain ⟨A, b, h1, h2⟩ := grps_some l r
    unfold grps at h1 h2 ⊢
    refine ⟨[] :: A, b, ?_, ?_⟩
    · simp only [splitG, List.cons_append]; rw [h1]
    · simp only [splitG, List.cons_append]; rw [h2]
  | some k :: r => by
    obtain ⟨A, b, h1, h2⟩ := grps_some l r
    unfold grps at h1 h2 ⊢
    cases A with
    | nil =>
      simp only [List.nil_append, List.cons.injEq] at h1 h2
      refine ⟨[], k :: b, ?_, ?_⟩
      · simp only [splitG, List.nil_append, List.cons_append, h1.1, h1.2]
      · simp only [splitG, List.nil_append, List.cons_append, h2.1, h2.2]
    | cons g A =>
      simp only [List.cons_append, List.cons.injEq] at h1 h2
      refine ⟨(k :: g) :: A, b, ?_, ?_⟩
      · simp only [splitG, List.cons_append, h1.1, h1.2]
      · simp only [splitG, List.cons_append, h2.1, h2.2]
theorem runs_grps (is : List PPart) : runs is = (grps (ded is)).map List.flatten := rfl
theorem runs_some (is : List PPart) (l : List Nat) : ∃ A b, runs is = A ++ [b] ∧ runs (is ++ [some l]) = A ++ [b ++ l] := by
  obtain ⟨A, b, h1, h2⟩ := grps_some l (ded is)
  refine ⟨A.map List.flatten, b.flatten, ?_, ?_⟩
  · rw [runs_grps, h1]; simp
  · rw [runs_grps, ded_snoc, show dedS (ded is) (some l) = ded is ++ [some l] from rfl, h2]; simp
theorem runs_dup {is : List PPart} (h : is.getLast? = some none) : runs (is ++ [none]) = runs is := by
  have h' := (ded_last is).mpr h
  rw [runs_grps, ded_snoc, runs_grps]
  show List.map _ (grps (if (ded is).getLast? = some none then ded is else ded is ++ [none])) = _
  rw [if_pos h']
theorem runs_new {is : List PPart} (h : is.getLast? ≠ some none) : runs (is ++ [none]) = runs is ++ [[]] := by
  have h' : ¬ (ded is).getLast? = some none := fun q => h ((ded_last is).mp q)
  rw [runs_grps, ded_snoc, runs_grps]
  show List.map _ (grps (if (ded is).getLast? = some none then ded is else ded is ++ [none])) = _
  rw [if_neg h', grps_none]
  simp
theorem alph_lt : ∀ c ∈ alph, c < 128 := by decide
theorem row_len (c : Nat) (ord : List Nat) (wr : Bool) : (rowOf c ord wr).length ≤ 3 := by
  unfold rowOf rowS
  split
  · split
    · decide
    · split <;> simp
  · split
    · split
      · decide
      · split <;> simp
    · split
      · decide
      · split
        · split <;> simp
        · split
          · simp
          · split <;> simp
theorem fm_len {wr : Bool} (ord : List Nat) : ∀ l : List Nat, (l.flatMap fun c => rowOf c ord wr).length ≤ 3 * l.length
  | [] => Nat.le_refl _
  | c :: r => by
    have h1 := fm_len (wr := wr) ord r
    have h2 := row_len c ord wr
    rw [List.flatMap_cons, List.length_append, List.length_cons]
    omega
theorem slice_mid {w : World} {A : Around} {E : Value → Shared → Prop} {s : Shared} {h₀ : Heap} {L l : Addr} {m : Str → Option Value} {news : List (Addr × Obj)} {value slice : PySem.Expr} {its : Array Value} {n : Nat} {v0 vl va vb : Value} {vm : List Value} {Q : Value → Shared → Prop}
    (F : Fr h₀ L s.heap m) (N : News h₀ L s.heap news) (hm : (l, listOf its n) ∈ news) (hi : its.toList = v0 :: (vm ++ [vl])) (hz : its.size ≤ 10000) (pl : PySem.IsPart va (some 1)) (pu : PySem.IsPart vb (some (-1)))
    (h : ∀ D h', Fr h₀ L h' m → News h₀ L h' ((D, listOf vm.toArray 0) :: news) → (∀ p ∈ news, p.1 < D) → Q (.ref D) { s with heap := h' })
    (hs : subscripted slice false (.ref l) (.ref s.heap.objs.size) = operate [.ref s.heap.objs.size, .ref l] (getItem (.ref l) (.ref s.heap.objs.size))) (ht : ∀ r, letTemporaryGo value (.ref l) r = pure ()) :
    wpAny (model pw w) A (subscriptTail value slice (.ref l) (.ref s.heap.objs.size)) Q E { s with heap := s.heap.push { cls := .type "slice", data := .fields #[va, vb, .none] } } := by
  have hsz : its.size = vm.length + 2 := by rw [← Array.length_toList, hi]; simp
  have e : sliceBounds (some 1) (some (-1)) none its.size = (((1 : Nat) : Int), ((vm.length + 1 : Nat) : Int), 1) := by
    simp only [sliceBounds, Option.getD_none, show (1 : Int) > 0 by decide, if_true, show ¬ ((1 : Int) < 0) by decide, if_false, show ((-1 : Int) < 0) by decide, hsz]
    congr 1
    · omega
    · congr 1; omega
  refine kmk_slice F N (isList_made N hm) pl pu (fun D h' F' N' l1 => h D h' F' ?_ l1) hs ht (by have := sizeLine_eq; omega)
  rw [kmk_pick_nat _ e, hi] at N'
  have e2 : ((v0 :: (vm ++ [vl])).drop 1).take (vm.length + 1 - 1) = vm := by simp
  rw [e2] at N'
  exact N'
theorem comp_rest {prog : Program} {w : World} {A : Around} {h₀ : Heap} {L : Addr} {m : Str → Option Value} {env : Env} {elt : PySem.Expr} {x : Str} {scope : Scope} {cl : List (Str × Addr)} {s : Shared} {S : List (Addr × Obj) → Prop} {P : Nat → Value → Prop} {Fin : List Value → List (Addr × Obj) → Prop} {n : Nat}
    (J : Nat → List Value → Prop) (news : List (Addr × Obj))
    (turn : ∀ i v ys I oI C oC D m₂ h tk (E' : Value → Shared → Prop), i < n → J i ys → P i v → LCg.NsObj oC m₂ → m₂ x = some v → Fr h₀ L h m → News h₀ L h ((I, oI) :: (C, oC) :: (D, LCg.lst ys) :: news) → LCg.Off3 I C D news → ((@Ne Nat I C) ∧ (@Ne Nat I D) ∧ (@Ne Nat C D)) →
      wpAny (model prog w) A (eval elt (compEnvC scope cl C env)) (LCg.CompEnd h₀ L m { s with heap := h, toks := tk } I oI C oC D (LCg.lst ys) S (fun y news' => news' = news ∧ J (i + 1) (ys ++ [y]))) E' { s with heap := h, toks := tk })
    (fin : ∀ ys, J n ys → Fin ys news) : ∀ k i ys, i + k = n → J i ys → LCg.CompRest prog w A h₀ L m env elt x scope cl s S P Fin k i ys news
  | 0, i, ys, e, hJ => LCg.CompRest.zero (fin ys (by have : i = n := by omega
                                                     rw [← this]; exact hJ))
  | k + 1, i, ys, e, hJ => by
    refine LCg.CompRest.succ fun v I oI C oC D m₂ h tk E' hv hC hx F N off ne => ?_
    refine wpAny_mono (turn i v ys I oI C oC D m₂ h tk E' (by omega) hJ hv hC hx F N off ne) (fun y s₂ h₂ => ?_) fun _ _ e => e
    obtain ⟨h', tk', news', rfl, F', N', off', hS, rfl, hJ'⟩ := h₂
    exact ⟨h', tk', _, rfl, F', N', off', hS, comp_rest J _ turn fin k (i + 1) (ys ++ [y]) (by omega) hJ'⟩
theorem strsAre_get {cs : List (List Nat)} : ∀ {vs : List Value} {i : Nat} {v : Value}, StrsAre vs (cs.map mkS) → vs[i]? = some v → ∃ c t, cs[i]? = some c ∧ v = .str (mkS c) t := by
  induction cs with
  | nil => intro vs i v h e; cases h; cases e
  | cons c cs ih =>
    intro vs i v h e
    cases h with
    | cons y t h' =>
      cases i with
      | zero => cases e; exact ⟨c, t, rfl, rfl⟩
      | succ i => exact ih h' e
theorem mem_len {cs : List (List Nat)} {c : List Nat} : c ∈ cs → c.length ≤ cs.flatten.length := by
  induction cs with
  | nil => intro h; cases h
  | cons d cs ih =>
    intro h
    rw [List.flatten_cons, List.length_append]
    rcases List.mem_cons.mp h with rfl | h
    · omega
    · have := ih h; omega
noncomputable def wrapR (r : List Nat) : List Nat := [40, 63, 62, 46, 42, 63] ++ r ++ [41]
theorem wrapR_len : ∀ ms : List (List Nat), (ms.map wrapR).flatten.length = ms.flatten.length + 7 * ms.length
  | [] => rfl
  | r :: ms => by
    have := wrapR_len ms
    simp only [List.map_cons, List.flatten_cons, List.length_append, List.length_cons, wrapR, List.length_nil] at this ⊢
    omega
theorem mids_snoc (lr : List Nat) : ∀ ms : List (List Nat), mids (ms ++ [lr]) = (ms.map wrapR).flatten ++ [46, 42] ++ lr
  | [] => rfl
  | r :: ms => by
    have := mids_snoc lr ms
    obtain ⟨a, b, e⟩ : ∃ a b, ms ++ [lr] = a :: b := by cases ms with
      | nil => exact ⟨_, _, rfl⟩
      | cons x y => exact ⟨_, _, rfl⟩
    rw [List.cons_append, e]
    rw [e] at this
    show [40, 63, 62, 46, 42, 63] ++ r ++ [41] ++ mids (a :: b) = _
    rw [this]
    simp [wrapR]
theorem add_mk {w : World} {A : Around} {E : Value → Shared → Prop} {s : Shared} {X Y : Str} {x y : List Nat} {t u : Tok} {Q : Value → Shared → Prop} (hX : X = mkS x) (hY : Y = mkS y) (hl : x.length + y.length ≤ 1000000)
    (h : ∀ t' k, Q (.str (mkS (x ++ y)) t') { s with toks := k }) : wpAny (model pw w) A (binaryOp .Add (.str X t) (.str Y u)) Q E s := by
  subst hX hY
  refine SBL.add (fun t' k _ => ?_) ?_
  · rw [mkS_append]; exact h t' k
  · have e1 : (mkS x).length = x.length := by simp [mkS, Str.length]
    have e2 : (mkS y).length = y.length := by simp [mkS, Str.length]
    rw [e1, e2, sizeLine_eq]; omega
section Z9
local macro_rules | `(tactic| walk_at "getMethod ref") => `(tactic| (k_here; (with_reducible show wpAny _ _ (getMethod (Value.ref _) (PySem.Str.ofString "extend") _) _ _ _); k_dflt (refine' kf_method ?N ?m PySem.F.slot_list_extend PySem.F.type_list_extend ?_; (case N => k_asm); (case m => k_mem))))
local macro_rules | `(tactic| walk_at "pyIter str") => `(tactic| (k_here; refine myStop ?_))
local macro_rules | `(tactic| walk_at "exec For Name Call cons nil") => `(tactic| (k_here; refine myStop ?_))
local macro_rules | `(tactic| walk_at "pyIter ref") => `(tactic| (k_here; refine myStop ?_))
local macro_rules | `(tactic| walk_at "exec For") => `(tactic| (k_here; refine myStop ?_))
local macro_rules | `(tactic| walk_at "subscriptTail Name BinOp ref int") => `(tactic| (k_here; k_dflt (refine' litem_at ?k1 ?k2 ?k3 ?_; (case k1 => k_asm); (case k2 => k_mem); (case k3 => assumption); k_whole)))
local macro_rules | `(tactic| walk_at "subscriptTail Name Constant ref int") => `(tactic| (k_here; k_dflt (refine' litem_at ?k1 ?k2 ?k3 ?_; (case k1 => k_asm); (case k2 => k_mem); (case k3 => assumption); k_whole)))
local macro_rules | `(tactic| walk_at "eval ListComp") => `(tactic| (k_here; k_dflt (refine LCg.ListComp_U (F₀ := by k_asm) (by with_unfolding_all rfl) (by decide) (by rfl) (by decide) (by rfl) ?_)))
local macro_rules | `(tactic| walk_at "CompSrc") => `(tactic| (k_here; refine myStop ?_))
local macro_rules | `(tactic| walk_at "subscriptTail Name Slice ref ref") => `(tactic| (k_here; (with_reducible show wpAny _ _ (subscriptTail _ (PySem.Expr.Slice _ _ none _) (Value.ref _) (Value.ref _)) _ _ _); k_dflt (refine' slice_mid ?F ?N ?l ?i ?z ?p ?q ?_ ?s ?t; (case F => k_asm); (case N => k_asm); (case l => k_mem); (case i => assumption); (case z => assumption); (case p => kmk_part); (case q => kmk_part); (case s => with_unfolding_all rfl); (case t => kmk_pure)); intro D' h' F' N' l1; (replace l1 := allNe_mk (allNe_of_lt (by assumption))); (try k_sweep)))
local macro_rules | `(tactic| walk_at "CompEnd") => `(tactic| (k_here; refine myStop ?_))
local macro_rules | `(tactic| walk_at "MY STR") => `(tactic| first | with_reducible rfl | exact (show _ = mkS [40, 63, 115, 58] by decide) | exact (show _ = mkS [41, 92, 90] by decide) | exact (show _ = mkS [40, 63, 62, 46, 42, 63] by decide) | exact (show _ = mkS [41] by decide) | exact (show _ = mkS [46, 42] by decide))
local macro_rules | `(tactic| walk_at "MY LEN") => `(tactic| first | with_reducible assumption | (simp only [List.length_append, List.length_cons, List.length_nil]; omega))
local macro_rules | `(tactic| walk_at "binaryOp Add str str") => `(tactic| (k_here; (with_reducible show wpAny _ _ (binaryOp Operator.Add (Value.str _ _) (Value.str _ _)) _ _ _); k_dflt (refine' add_mk ?k1 ?k2 ?k3 ?_; (case k1 => walk_at "MY STR"); (case k2 => walk_at "MY STR"); (case k3 => walk_at "MY LEN"); k_whole); intro t' k'))
local macro_rules | `(tactic| walk_at "setItem ref int") => `(tactic| (k_here; (with_reducible show wpAny _ _ (setItem (Value.ref _) (Value.int _ _) _) _ _ _); k_dflt (refine' setlast_K ?k1 ?k2 ?k3 ?k4 ?k5 ?_; (case k1 => k_asm); (case k2 => k_asm); (case k3 => k_updF); (case k4 => assumption); (case k5 => first | rfl | decide); k_whole); intro h' n' F' N'; (try k_sweep)))
local macro_rules | `(tactic| walk_at "call type:range") => `(tactic| (k_here; (with_reducible show wpAny _ _ (call (Value.type "range") [Value.int _ _]) _ _ _); (rename Fr _ _ _ _ => F'); (rename News _ _ _ _ => N'); (with_unfolding_all refine range1_rows F' N' ?_); clear F' N'; intro h' tk' t1 u1 v1 R' F' N' _))
theorem row_pl (c : Nat) (ord : List Nat) (wr : Bool) : pLen (rowOf c ord wr) ≤ 9 := by
  have h0 : ∀ l : List Nat, pLen [some l] = l.length := fun l => by simp [pLen]
  have hS : ∀ c, pLen (rowS c ord) ≤ 9 := by
    intro c
    unfold rowS
    split
    · rw [h0]; simp
    · split <;> decide
  have hE : (entOf c).length ≤ 4 := by unfold entOf; split; decide; split <;> decide
  unfold rowOf
  split
  · split
    · decide
    · exact hS _
  · split
    · split
      · decide
      · exact hS _
    · split
      · decide
      · split
        · exact hS _
        · split
          · rw [h0, List.length_append]; simp; omega
          · split <;> rw [h0] <;> simp
theorem row_pls {wr : Bool} (ord : List Nat) : ∀ l : List Nat, pLen (l.flatMap fun c => rowOf c ord wr) ≤ 9 * l.length
  | [] => Nat.le_refl _
  | c :: r => by
    have h1 := row_pls (wr := wr) ord r
    have h2 := row_pl c ord wr
    rw [List.flatMap_cons, pLen_append, List.length_cons]
    omega
theorem runs_pl (is : List PPart) : (runs is).flatten.length ≤ pLen is := by
  have h1 := (splitG_len (ded is)).1
  have h2 := (ded_len is).1
  unfold runs
  rw [List.flatten_cons, List.length_append]
  omega
structure TS1 where
  pre : List Nat
  its : Array Value
  n : Nat
theorem runs_len (is : List PPart) : (runs is).length ≤ is.length + 1 := by
  have h1 := (splitG_len (ded is)).2
  have h2 := (ded_len is).2
  unfold runs
  rw [List.length_cons, List.length_map]
  omega
theorem StrsOf.last {its : Array Value} {A : List (List Nat)} {b : List Nat} (h : StrsOf its (A ++ [b])) : ∃ vs t, its.toList = vs ++ [.str (mkS b) t] ∧ StrsAre vs (A.map mkS) := by
  have g : ∀ (ys : List Str) (vs : List Value), StrsAre vs (ys ++ [mkS b]) → ∃ us t, vs = us ++ [.str (mkS b) t] ∧ StrsAre us ys := by
    intro ys
    induction ys with
    | nil =>
      intro vs h
      cases h with
      | cons y t h' => cases h'; exact ⟨[], t, rfl, .nil⟩
    | cons y ys ih =>
      intro vs h
      cases h with
      | cons y t h' =>
        obtain ⟨us, t', rfl, h2⟩ := ih _ h'
        exact ⟨_ :: us, t', rfl, .cons y t h2⟩
  refine g _ _ ?_
  unfold StrsOf at h
  rw [List.map_append] at h
  exact h
theorem strs_set_last {vs : List Value} {A : List (List Nat)} {c : List Nat} {t : Tok} (h : StrsAre vs (A.map mkS)) : StrsOf (vs ++ [Value.str (mkS c) t]).toArray (A ++ [c]) := by
  unfold StrsOf
  rw [List.map_append]
  exact strsAre_snoc h
theorem StrsOf.mid {its : Array Value} {r0 lr : List Nat} {ms : List (List Nat)} (h : StrsOf its (r0 :: (ms ++ [lr]))) : ∃ v0 vm t, its.toList = v0 :: (vm ++ [.str (mkS lr) t]) ∧ StrsAre vm (ms.map mkS) := by
  obtain ⟨vs, t, h1, h2⟩ := StrsOf.last (A := r0 :: ms) h
  cases h2 with
  | cons y t0 h' => exact ⟨_, _, t, h1, h'⟩
structure TS2 where
  pre : List PPart
  rest : List PPart
  its : Array Value
  n : Nat
theorem strs_start {t : Tok} : StrsOf #[.str (Str.ofString "") t] (runs []) := .cons _ _ .nil
theorem its_split {p : PPart} {R : List PPart} : ∀ {P : List PPart} {vs : List Value}, ItsAre vs (P ++ p :: R) → ∃ A v B, vs = A ++ v :: B ∧ A.length = P.length ∧ IsIt v p
  | [], [], h => h.elim
  | [], v :: vs, h => ⟨[], v, vs, rfl, rfl, h.1⟩
  | q :: P, [], h => h.elim
  | q :: P, w :: vs, h => by
    obtain ⟨A, v, B, e, e2, e3⟩ := its_split (P := P) h.2
    exact ⟨w :: A, v, B, by rw [e]; rfl, by rw [List.length_cons, List.length_cons, e2], e3⟩
theorem item_of {its : Array Value} {P q R : List PPart} {p : PPart} (h : ItsAre its.toList P) (e : P = q ++ p :: R) (hz : its.size ≤ 10000) : ∃ v, LAt its (q.length : Int) v ∧ IsIt v p := by
  rw [e] at h
  obtain ⟨A, v, B, h1, h2, h3⟩ := its_split h
  exact ⟨v, lat_of h1 hz (by rw [h2]), h3⟩
set_option maxRecDepth 100000 in
set_option maxHeartbeats 0 in
theorem law_told_call {w : World} {p : Program} {loose : List Str} {mean : ExcName → Option Value} {mg mb : Str → Option Value} {dp un : Nat} {gd : Option (List Code)} {cn : Str} {cs : Scope} {a : Addr} {ccd : Value} {cl : List (Str × Addr)} {outer : List Env} {A₀ : Around} {base h₀ : Heap} {L : Addr} {m : Str → Option Value} {news : List (Addr × Obj)} {s : Shared} {Q : Value → Shared → Prop} {x : List Nat} {t : Tok} {lo : Addr} {o : List (Nat × Tok)} {n : Nat} {wr : Bool}
  (hx : ∀ c ∈ x, c ∈ alph) (hxl : x.length ≤ 100) (h42 : 42 ∈ ordC o) (h63 : 63 ∈ ordC o) (h37 : 37 ∈ ordC o) (h95 : 95 ∈ ordC o) (hob : 91 ∈ ordC o) (hoz : o.length ≤ 1000) (hm : (lo, listOf (ordA o) n) ∈ news)
  (B : Below A₀ base outer h₀) (F : Fr h₀ L s.heap m) (KX : (hd0.heap_1 w.params).In h₀) (N : News h₀ L s.heap news) (T : Top p loose mean mg mb h₀) (hk : cs.kind = .function)
  (hd : dp + 20 < recursionLimit) (hu : un + 160 < cLine)
  (hret : ∀ t h' tk', Fr h₀ L h' m → News h₀ L h' news → Q (.str (mkS (rend (x.flatMap fun c => rowOf c (ordC o) wr))) t) {s with heap := h', toks := tk'}) :
   wpAny (model pw w) (ktrTop dp un gd cn cs L a ccd cl outer) (call (.ref 121) [.str (mkS x) t, .ref lo, .bool wr]) Q (fun _ _ => False) s := by
  refine wpAny_call ?_
  k_dflt walk_at "MY ENTER"
  k_steps
  refine myStop ?_
  k_dflt (refine' For_turns (by k_asm) ?_)
  k_whole
  k_steps
  rename_i l h1 hl h2 F1 N1
  refine myStop ?_
  refine str_items (by rfl) F1 N1 ?asc fun I hI => ?_
  case asc => exact List.all_eq_true.mpr fun c hc => decide_eq_true (alph_lt c (hx c hc))
  refine my_rest (σ := TS1) (keep := []) chItm (fun c => [(l, listOf c.its c.n)]) (fun c => [(Str.ofString "text", .str (mkS x) t), (Str.ofString "order", .ref lo), (Str.ofString "written", .bool wr), (Str.ofString "items", .ref l)]) (fun r c => c.pre ++ r = x ∧ ItsAre c.its.toList (c.pre.flatMap fun c => rowOf c (ordC o) wr)) (base := news) (fun p hp => hI p (.tail _ hp)) (fun _ p hp => by rw [List.mem_singleton.mp hp]; exact fun q => by injection q with q; exact absurd q (by decide)) (fun _ => trivial) ?turn ?fin x ⟨[], #[], 0⟩ _ ⟨rfl, trivial⟩ ?ffm
  case ffm => walk_at "MY FM"
  case turn =>
    rintro e r ⟨pre, its, n1⟩ u v h9 tk9 ob ⟨hpre, hits⟩ ⟨tt, rfl⟩ ho F5 N5 hne
    simp only [List.cons_append, List.nil_append] at F5 N5 hne
    dsimp only at hpre hits
    have hIl : @Ne Nat l I := hne _ (.head _)
    have hIn : AllNe I news := allNe_mk fun p hp => hne p (.tail _ hp)
    have hce : e ∈ alph := hx e (by rw [← hpre]; simp)
    k_steps
    rename_i l2 its2 n2 h3 tk3 F3 N3 hl2 hi2
    replace hl2 := hl2
    simp only [AllNe] at hl2
    obtain ⟨hl2I, hl2l, hl2n⟩ := hl2
    have hl2l' : @Ne Nat l2 l := fun e => hl2l e.symm
    have hsz1 : its.size ≤ 10000 := by
      have h1 := ItsAre.length hits
      have h2 := fm_len (wr := wr) (ordC o) pre
      have h3 : pre.length ≤ x.length := by rw [← hpre, List.length_append]; omega
      rw [Array.length_toList] at h1
      omega
    have hsz2 : its2.size ≤ 10000 := by
      have h1 := ItsAre.length hi2
      have h2 := row_len e (ordC o) wr
      rw [Array.length_toList] at h1
      omega
    refine extend_K (its := its) (n := n1) (its2 := its2) (n2 := n2) F3 N3 (.head _) (by k_updF) hsz1 hsz2 fun h4 n4 F4 N4 => ?_
    k_steps
    refine' my_fend ⟨pre ++ [e], its ++ its2, n4⟩ ?fr ?nw ?hit ?led ?fm ?inv
    case fr => k_asm
    case nw => k_asm
    case hit => k_mem
    case led => dsimp only; walk_at "MY LED"
    case fm => dsimp only; walk_at "MY FM"
    case inv => exact ⟨by rw [List.append_assoc]; exact hpre, by rw [Array.toList_append, List.flatMap_append]; exact hits.append (by simpa using hi2)⟩
  case fin =>
    rintro ⟨pre, its, n1⟩ u h9 tk9 ⟨hpre, hits⟩ F5 N5
    simp only [List.cons_append, List.nil_append] at F5 N5
    dsimp only at hpre hits
    rw [List.append_nil] at hpre
    replace hpre := hpre.symm
    subst hpre
    have hnl : its.size = (x.flatMap fun c => rowOf c (ordC o) wr).length := by rw [← ItsAre.length hits, Array.length_toList]
    have hn3 := fm_len (wr := wr) (ordC o) x
    have hpl := row_pls (wr := wr) (ordC o) x
    have hsl : its.size ≤ sizeLine := by have := sizeLine_eq; omega
    k_steps
    refine myStop ?_
    k_dflt (refine' For_turns (by k_asm) ?_)
    k_whole
    k_steps
    rename_i l' hh2 FF NN hlt1 hlt2 hh3 hh4 tkk2 t1 u1 v1 RR F2 N2 KK
    generalize hP : (x.flatMap fun c => rowOf c (ordC o) wr) = P at hits hret hnl hn3 hpl
    refine myStop ?_
    refine range_items (n := its.size) (by rfl) F2 N2 RR (by omega) fun I2 hI2 => ?_
    refine my_rest (σ := TS2) (keep := []) rgItm (fun c => [(l', listOf c.its c.n)]) (fun c => [(Str.ofString "text", .str (mkS x) t), (Str.ofString "order", .ref lo), (Str.ofString "written", .bool wr), (Str.ofString "items", .ref l), (Str.ofString "runs", .ref l')]) (fun r c => r = List.range' c.pre.length c.rest.length ∧ P = c.pre ++ c.rest ∧ StrsOf c.its (runs c.pre)) (base := (l, listOf its n1) :: news) (fun p hp => hI2 p (.tail _ hp)) (fun _ p hp => by rw [List.mem_singleton.mp hp]; exact fun q => by injection q with q; exact absurd q (by decide)) (fun _ => trivial) ?turn2 ?fin2 (List.range' 0 its.size) ⟨[], P, #[.str (Str.ofString "") tk9], 0⟩ _ ⟨by rw [hnl]; rfl, rfl, strs_start⟩ ?ffm2
    case ffm2 => walk_at "MY FM"
    case turn2 =>
      rintro e r ⟨q, rest, rs, n2⟩ u2 v2 h10 tk10 ob2 ⟨hr, hP2, hrs⟩ ⟨tt2, rfl⟩ ho2 F6 N6 hne2
      simp only [List.cons_append, List.nil_append] at F6 N6 hne2
      dsimp only at hr hP2 hrs
      rcases rest with _ | ⟨pi, rest⟩
      · cases hr
      rw [List.length_cons, List.range'_succ, List.cons.injEq] at hr
      obtain ⟨rfl, rfl⟩ := hr
      obtain ⟨vi, hat, hvi⟩ := item_of hits hP2 (by omega)
      have hl'I : @Ne Nat l' I2 := hne2 _ (.head _)
      have hlI : @Ne Nat l I2 := hne2 _ (.tail _ (.head _))
      have hIn : AllNe I2 news := allNe_mk fun p hp => hne2 p (.tail _ (.tail _ hp))
      have hql : q.length ≤ P.length := by rw [hP2, List.length_append]; omega
      have hrl := runs_len q
      have hrz : rs.size ≤ sizeLine := by have := hrs.size; have := sizeLine_eq; omega
      rcases pi with _ | lp
      · subst hvi
        rcases List.eq_nil_or_concat q with rfl | ⟨q', pq, rfl⟩
        · k_steps
          refine' my_fend ⟨[] ++ [none], rest, _, _⟩ ?fr2 ?nw2 ?hit2 ?led2 ?fm2 ?inv2
          case fr2 => k_asm
          case nw2 => k_asm
          case hit2 => k_mem
          case led2 => dsimp only; walk_at "MY LED"
          case fm2 => dsimp only; walk_at "MY FM"
          case inv2 => exact ⟨by simp, by rw [hP2]; simp, by rw [runs_new (by simp)]; exact hrs.push ofS_empty⟩
        · rw [List.concat_eq_append] at *
          have hq1 : 1 ≤ (q' ++ [pq]).length := by rw [List.length_append]; simp
          have hP3 : P = q' ++ pq :: (none :: rest) := by rw [hP2]; simp
          obtain ⟨vj, hatj, hvj⟩ := item_of hits hP3 (by omega)
          have ej : ((q' ++ [pq]).length : Int) - 1 = (q'.length : Int) := by rw [List.length_append]; simp
          rw [← ej] at hatj
          rcases pq with _ | lq
          · subst hvj
            k_steps
            refine' my_fend ⟨(q' ++ [none]) ++ [none], rest, _, _⟩ ?fr2 ?nw2 ?hit2 ?led2 ?fm2 ?inv2
            case fr2 => k_asm
            case nw2 => k_asm
            case hit2 => k_mem
            case led2 => dsimp only; walk_at "MY LED"
            case fm2 => dsimp only; walk_at "MY FM"
            case inv2 => exact ⟨by dsimp only; congr 1; simp, by rw [hP2]; simp, by rw [runs_dup (by simp)]; exact hrs⟩
          · obtain ⟨tq, rfl⟩ := hvj
            k_steps
            refine' my_fend ⟨(q' ++ [some lq]) ++ [none], rest, _, _⟩ ?fr2 ?nw2 ?hit2 ?led2 ?fm2 ?inv2
            case fr2 => k_asm
            case nw2 => k_asm
            case hit2 => k_mem
            case led2 => dsimp only; walk_at "MY LED"
            case fm2 => dsimp only; walk_at "MY FM"
            case inv2 => exact ⟨by dsimp only; congr 1; simp, by rw [hP2]; simp, by rw [runs_new (by simp)]; exact hrs.push ofS_empty⟩
      · obtain ⟨tp, rfl⟩ := hvi
        obtain ⟨A, b, hA, hA'⟩ := runs_some q lp
        rw [hA] at hrs
        obtain ⟨vs, tb, hvs, hvs2⟩ := hrs.last
        have hlast : LastIs rs (.str (mkS b) tb) := by unfold LastIs; rw [hvs]; simp
        have hbl : b.length + lp.length ≤ 1000000 := by
          have h1 := runs_pl q
          have h2 : pLen P = pLen q + (lp.length + pLen rest) := by rw [hP2, pLen_append]; rfl
          rw [hA] at h1
          simp only [List.flatten_append, List.flatten_cons, List.flatten_nil, List.length_append, List.append_nil] at h1
          omega
        k_steps
        refine' my_fend ⟨q ++ [some lp], rest, _, _⟩ ?fr2 ?nw2 ?hit2 ?led2 ?fm2 ?inv2
        case fr2 => k_asm
        case nw2 => k_asm
        case hit2 => k_mem
        case led2 => dsimp only; walk_at "MY LED"
        case fm2 => dsimp only; walk_at "MY FM"
        case inv2 => exact ⟨by dsimp only; congr 1; simp, by rw [hP2]; simp, by rw [hA']; exact strs_set_last hvs2⟩
    case fin2 =>
      rintro ⟨q, rest, rs, n2⟩ u2 h10 tk10 ⟨hr, hP2, hrs⟩ F6 N6
      simp only [List.cons_append, List.nil_append] at F6 N6
      dsimp only at hr hP2 hrs
      cases rest with
      | cons _ _ => cases hr
      | nil =>
      rw [List.append_nil] at hP2
      replace hP2 := hP2.symm
      subst hP2
      have hrl := runs_len q
      have hrz : rs.size ≤ sizeLine := by have := hrs.size; have := sizeLine_eq; omega
      have hpl2 := runs_pl q
      have hrend : rend q = render ((runs q).headD []) (runs q).tail := rfl
      have hne0 : runs q ≠ [] := by unfold runs; simp
      rcases hrq : runs q with _ | ⟨r0, rt⟩
      · exact absurd hrq hne0
      rw [hrq] at hrs hrend hpl2 hrl
      have hsz := hrs.size
      have hat0 : ∃ t0, LAt rs 0 (.str (mkS r0) t0) := by
        unfold StrsOf at hrs
        rcases hl0 : rs.toList with _ | ⟨v0, vr⟩
        · rw [hl0] at hrs; cases hrs
        · rw [hl0] at hrs
          cases hrs with
          | cons _ t0 _ => exact ⟨t0, lat_of (A := []) hl0 (by omega) rfl⟩
      obtain ⟨t0, hat0⟩ := hat0
      rcases List.eq_nil_or_concat rt with rfl | ⟨ms, lr, rfl⟩
      · have hsz1 : (rs.size : Int) = 1 := by rw [hsz]; rfl
        simp only [List.flatten_cons, List.flatten_nil, List.append_nil] at hpl2
        have hx1 : [40, 63, 115, 58] ++ r0 ++ [41, 92, 90] = rend q := by rw [hrend]; simp [render, mids]
        k_steps
        rw [hx1]
        rename_i kF kN Tc kX
        exact hret _ _ _ kF fun p hp => kN p (.tail _ (.tail _ hp))
      · rw [List.concat_eq_append] at *
        have hsz1 : (rs.size : Int) ≠ 1 := by rw [hsz]; simp; omega
        simp only [List.flatten_cons, List.flatten_nil, List.append_nil, List.flatten_append, List.length_append] at hpl2
        obtain ⟨v0, vm, tl, hvs, hvm⟩ := hrs.mid
        have hlast : LastIs rs (.str (mkS lr) tl) := by unfold LastIs; rw [hvs]; simp [List.getLast?_cons]
        have hrz2 : rs.size ≤ 10000 := by omega
        have hml : vm.length = ms.length := by have := hvm.len_eq; rw [List.length_map] at this; exact this
        k_steps
        rename_i D1 h11 F7 N7 l7
        refine myStop ?_
        refine LCg.CompSrc.ledger (by rfl) F7 N7 (.head _) (by rw [List.size_toArray, hml]; have := sizeLine_eq; simp at hrl; omega) ?_
        intro g'
        refine comp_rest (fun i ys => StrsAre ys (((ms.take i).map wrapR).map mkS)) _ ?turn3 ?fin3 _ 0 [] (Nat.zero_add _) .nil
        case turn3 =>
          intro i v ys I3 oI C3 oC D3 m3 h12 tk12 E3 hi hys hv hC hx3 F8 N8 off ne
          obtain ⟨c, tc, hc, rfl⟩ := strsAre_get hvm (by simpa using hv)
          have hcl := mem_len (List.mem_of_getElem? hc)
          k_steps
          unfold MyStop
          refine' LCg.CompEnd.intro F8 N8 _ ?sub off ?hS ?rr
          case sub => exact fun p hp => hp
          case hS => exact Or.inr ⟨_, .head _, rfl, _, rfl⟩
          case rr =>
          refine ⟨rfl, ?_⟩
          rw [List.take_succ, hc]
          simp only [Option.toList, List.map_append]
          exact strsAre_snoc hys
        case fin3 =>
          intro ys hys
          have hms : List.take vm.toArray.size ms = ms := List.take_of_length_le (by rw [List.size_toArray, hml]; exact Nat.le_refl _)
          rw [hms] at hys
          have hyo : StrsOf ys.toArray (ms.map wrapR) := hys
          have hmn : ms.length ≤ 1000 := by simp at hrl; omega
          have hz3 : (ms.map wrapR).flatten.length ≤ 1000000 := by rw [wrapR_len]; omega
          have hz4 := wrapR_len ms
          have hx1 : 40 :: 63 :: 115 :: 58 :: r0 ++ (ms.map wrapR).flatten ++ [46, 42] ++ lr ++ [41, 92, 90] = rend q := by rw [hrend]; simp [render, mids_snoc]
          unfold LCg.FinE
          intro D2 h13 tk13 F9 N9 o9
          have N10 : News _ _ h13 ((D2, listOf ys.toArray ys.length) :: (D1, listOf vm.toArray 0) :: (l', listOf rs n2) :: (l, listOf its n1) :: news) := N9
          clear N9
          k_steps
          rw [hx1]
          rename_i kF kN Tc kX
          exact hret _ _ _ kF fun p hp => kN p (.tail _ (.tail _ (.tail _ (.tail _ hp))))
end Z9
theorem slice8 {w : World} {A : Around} {E : Value → Shared → Prop} {s : Shared} {h₀ : Heap} {L l : Addr} {m : Str → Option Value} {news : List (Addr × Obj)} {value slice : PySem.Expr} {its : Array Value} {va vb : Value} {Q : Value → Shared → Prop}
    (F : Fr h₀ L s.heap m) (N : News h₀ L s.heap news) (hl : h₀.IsList l its) (hz : its.size ≤ 10000) (pl : PySem.IsPart va none) (pu : PySem.IsPart vb (some 8))
    (h : ∀ D h', Fr h₀ L h' m → News h₀ L h' ((D, listOf (its.toList.take 8).toArray 0) :: news) → (∀ p ∈ news, p.1 < D) → Q (.ref D) { s with heap := h' })
    (hs : subscripted slice false (.ref l) (.ref s.heap.objs.size) = operate [.ref s.heap.objs.size, .ref l] (getItem (.ref l) (.ref s.heap.objs.size))) (ht : ∀ r, letTemporaryGo value (.ref l) r = pure ()) :
    wpAny (model pw w) A (subscriptTail value slice (.ref l) (.ref s.heap.objs.size)) Q E { s with heap := s.heap.push { cls := .type "slice", data := .fields #[va, vb, .none] } } := by
  have e : sliceBounds none (some 8) none its.size = (((0 : Nat) : Int), ((min 8 its.size : Nat) : Int), 1) := by
    simp only [sliceBounds, Option.getD_none, show (1 : Int) > 0 by decide, if_true, show ¬ ((8 : Int) < 0) by decide, if_false]
    congr 1
    congr 1; omega
  refine kmk_slice F N (by obtain ⟨o, e, r⟩ := hl; exact ⟨o, F.keep _ _ e, r⟩) pl pu (fun D h' F' N' l1 => h D h' F' ?_ l1) hs ht (by have := sizeLine_eq; omega)
  rw [kmk_pick_nat _ e] at N'
  have e2 : (its.toList.drop 0).take (min 8 its.size - 0) = its.toList.take 8 := by
    rw [List.drop_zero, Nat.sub_zero, ← Array.length_toList, kmk_take_min]
  rw [e2] at N'
  exact N'
theorem ordA_cut {lf : List (Nat × Tok)} {i : Nat} (hi : i < lf.length) : ∃ pr c q, lf = pr ++ c :: q ∧ pr.length = i ∧ (ordA lf)[i]? = some (.str (mkS [c.1]) c.2) ∧ (ordA lf).eraseIdxIfInBounds i = ordA (pr ++ q) := by
  refine ⟨lf.take i, lf[i], lf.drop (i + 1), ?_, ?_, ?_, ?_⟩
  · rw [List.getElem_cons_drop, List.take_append_drop]
  · rw [List.length_take]; omega
  · unfold ordA; simp [hi]
  · have e1 : lf = lf.take i ++ lf[i] :: lf.drop (i + 1) := by rw [List.getElem_cons_drop, List.take_append_drop]
    have hl : (lf.take i).length = i := by rw [List.length_take]; omega
    generalize lf.take i = pr at e1 hl
    generalize lf[i] = c at e1
    generalize lf.drop (i + 1) = q at e1
    subst e1
    unfold ordA
    rw [List.map_append, List.map_cons]
    have hk := kl_erase (pr.map fun p => Value.str (mkS [p.1]) p.2) (q.map fun p => Value.str (mkS [p.1]) p.2) (Value.str (mkS [c.1]) c.2)
    rw [List.length_map, hl] at hk
    rw [hk, List.map_append]
theorem ints_get {ns : List Int} : ∀ {vs : List Value} {i : Nat} {v : Value}, IntsAre vs ns → (vs.toArray.toList.take 8).toArray[i]? = some v → ∃ k t, v = .int k t := by
  intro vs i v h e
  have e' : (vs.take 8)[i]? = some v := by simpa using e
  have hm : v ∈ vs := List.mem_of_mem_take (List.mem_of_getElem? e')
  clear e e'
  induction h with
  | nil => cases hm
  | cons k t h ih =>
    rcases List.mem_cons.mp hm with rfl | hm
    · exact ⟨_, _, rfl⟩
    · exact ih hm
theorem ints_snoc {k : Int} {t : Tok} : ∀ {vs : List Value} {ks : List Int}, IntsAre vs ks → IntsAre (vs ++ [.int k t]) (ks ++ [k])
  | _, _, .nil => .cons _ _ .nil
  | _, _, .cons a b h => .cons a b (ints_snoc h)
noncomputable def intItm (p : Nat × Tok) : Itm := .val (.int (p.1 : Int) p.2)
section
variable {w : World} {A : Around} {E : Value → Shared → Prop} {s : Shared} {env : Env} {h₀ : Heap} {body : List Stmt} {Q : Flow → Shared → Prop}
theorem ints_items {nm : Str} {px : Pos} {d : Addr} {l : List (Nat × Tok)} {n : Nat} {m₀ : Str → Option Value} {news : List (Addr × Obj)}
    (hh : A.handled = none) (F : Fr h₀ env.locals s.heap m₀) (N : News h₀ env.locals s.heap news) (hm : (d, listOf (l.map fun p => Value.int (p.1 : Int) p.2).toArray n) ∈ news)
    (rest₀ : ∀ I : Addr, (∀ p ∈ news, p.1 < I) → ItemsRest pw w A E h₀ env (.Name nm px) body Q s [(I, "list_iterator")] [(d, listOf (l.map fun p => Value.int (p.1 : Int) p.2).toArray n)] (l.map intItm) m₀ news) :
    wpAny (model pw w) A (pyIter (.ref d)) (fun it s₂ => TurnsAt pw w A h₀ env (.Name nm px) body Q E it s₂) E s := by
  have hax := N _ hm
  have hlt : d < s.heap.objs.size := Heap.lt_size hax.1
  have hne : d ≠ s.heap.objs.size := Nat.ne_of_lt hlt
  have hl : s.heap.IsList d (l.map fun p => Value.int (p.1 : Int) p.2).toArray := ⟨_, hax.1, rfl, _, rfl⟩
  refine wpAny_pyIter_list hl ?_
  refine ktu_core (tk0 := s.toks) (keep := [(d, listOf (l.map fun p => Value.int (p.1 : Int) p.2).toArray n)]) (KTurns.ofWalks (Walks.list hh s.heap.objs.size d hne (l.map fun p => Value.int (p.1 : Int) p.2).toArray) fun i v s Q E st q => wpAny_pure q) (by rw [List.size_toArray, List.length_map, List.length_map]) ?_ ?_ ?_ ?_ ?_ ?_ ?_ ?_ (F.push _) (fun p hp => ⟨Heap.get?_push_of_some _ (N p hp).1, (N p hp).2⟩) (And.intro hm trivial) (rest₀ _ fun p hp => Heap.lt_size (N p hp).1)
  · rintro i v h hx
    have hx' : (l.map fun p => Value.int (p.1 : Int) p.2)[i]? = some v := by simpa using hx
    rw [List.getElem?_map] at hx'
    cases hl2 : l[i]? with
    | none => rw [hl2] at hx'; cases hx'
    | some p =>
      rw [hl2] at hx'
      exact ⟨intItm p, by rw [List.getElem?_map, hl2]; rfl, (Option.some.inj hx').symm⟩
  · rintro i h ⟨st, _⟩
    obtain ⟨o, ho, hc, _⟩ := st
    exact ⟨[(s.heap.objs.size, o)], ⟨⟨rfl, hc⟩, trivial⟩, fun p hp => by rw [List.mem_singleton.mp hp]; exact ho⟩
  · intro b hb
    have hb' : b = s.heap.objs.size := by simpa using hb
    rw [hb']
    exact ⟨List.mem_cons_self .., next_is_new F⟩
  · intro b hb
    simpa using hb
  · intro b hb
    have hb' : b = s.heap.objs.size ∨ b = d := by simpa using hb
    rcases hb' with e | e
    · exact .inl (by simp [e])
    · exact .inr ⟨_, by rw [e]; exact .head _⟩
  · intro hI
    have hb' : env.locals = s.heap.objs.size ∨ env.locals = d := by simpa using hI
    rcases hb' with e | e
    · exact absurd F.ns.lt (e ▸ Nat.lt_irrefl _)
    · exact hax.2.1 e.symm
  · intro p hp hI
    exact absurd (Heap.lt_size (N p hp).1) ((List.mem_singleton.mp hI) ▸ Nat.lt_irrefl _)
  · exact ⟨⟨_, Heap.get?_push_size _ rfl, rfl, rfl⟩, hl.push _⟩
end
noncomputable def down : Nat → List Nat
  | 0 => []
  | k + 1 => (k + 1) :: down k
theorem ordA_push (o : List (Nat × Tok)) (c : Nat × Tok) : (ordA o).push (.str (mkS [c.1]) c.2) = ordA (o ++ [c]) := by
  unfold ordA; simp
structure TS3 where
  lf : List (Nat × Tok)
  od : List (Nat × Tok)
  told : Int
  tt : Tok
  n1 : Nat
  n2 : Nat
theorem reorder {h₀ h : Heap} {L lS lO lL : Addr} {a b : Addr × Obj} {t1 t2 t3 t4 t5 u0 u1 u2 u3 u4 : Tok} {news : List (Addr × Obj)}
    (N : News h₀ L h ((lS, listOf #[.int 5 t1, .int 4 t2, .int 3 t3, .int 2 t4, .int 1 t5] 0) :: (lO, listOf #[] 0) :: a :: b :: (lL, listOf #[.str (Str.ofString "*") u0, .str (Str.ofString "[") u1, .str (Str.ofString "%") u2, .str (Str.ofString "?") u3, .str (Str.ofString "_") u4] 0) :: news)) :
    News h₀ L h ((lO, listOf (ordA []) 0) :: (lL, listOf (ordA [(42, u0), (91, u1), (37, u2), (63, u3), (95, u4)]) 0) :: (lS, listOf (([(5, t1), (4, t2), (3, t3), (2, t4), (1, t5)] : List (Nat × Tok)).map fun p => Value.int (p.1 : Int) p.2).toArray 0) :: news) := by
  have e : ordA [(42, u0), (91, u1), (37, u2), (63, u3), (95, u4)] = #[.str (Str.ofString "*") u0, .str (Str.ofString "[") u1, .str (Str.ofString "%") u2, .str (Str.ofString "?") u3, .str (Str.ofString "_") u4] := by
    rw [show Str.ofString "*" = mkS [42] by decide, show Str.ofString "[" = mkS [91] by decide, show Str.ofString "%" = mkS [37] by decide, show Str.ofString "?" = mkS [63] by decide, show Str.ofString "_" = mkS [95] by decide]
    rfl
  rw [e]
  intro p hp
  refine N p ?_
  simp only [List.mem_cons] at hp ⊢
  rcases hp with rfl | rfl | rfl | hp
  · exact .inr (.inl rfl)
  · exact .inr (.inr (.inr (.inr (.inl rfl))))
  · exact .inl rfl
  · exact .inr (.inr (.inr (.inr (.inr hp))))
set_option maxRecDepth 100000 in
theorem pop_K {w : World} {A : Around} {E : Value → Shared → Prop} {s : Shared} {h₀ : Heap} {L D : Addr} {m : Str → Option Value} {news : List (Addr × Obj)} {g : Obj → List (Addr × Obj)} {lf : List (Nat × Tok)} {n : Nat} {i : Int} {u : Tok} {Q : Value → Shared → Prop}
    (F : Fr h₀ L s.heap m) (N : News h₀ L s.heap news) (U : UpdF D (listOf (ordA lf) n) news g) (h0 : 0 ≤ i) (hi : i < (lf.length : Int)) (hz : lf.length ≤ 100)
    (h : ∀ h' n' pr c q, lf = pr ++ c :: q → (pr ++ q).length + 1 = lf.length → Fr h₀ L h' m → News h₀ L h' (g (listOf (ordA (pr ++ q)) n')) → Q (.str (mkS [c.1]) c.2) { s with heap := h' }) : wpAny (model pw w) A (call (.builtin "list.pop") [.ref D, .int i u]) Q E s := by
  obtain ⟨pre, post, hn, hg, a, b⟩ := U.split
  subst hn
  have z := N (D, listOf (ordA lf) n) (List.mem_append.mpr (.inr (.head _)))
  obtain ⟨k, hik⟩ := Int.eq_ofNat_of_zero_le h0
  have hk : k < lf.length := by omega
  have hsz : (ordA lf).size = lf.length := by unfold ordA; simp
  obtain ⟨pr, c, q, e1, e2, e3, e4⟩ := ordA_cut hk
  have e5 : seqIndex? i (ordA lf).size = some k := by
    rw [hik]
    have hj : k < (ordA lf).size := by omega
    have hneg : ¬ ((k : Int) < 0) := by omega
    unfold seqIndex?
    simp only [hneg, if_false]
    simp [hj]
  have hf : Builtin.List.listFitsIndex i = true := fitsIndex_of h0 (by omega)
  have hzz : (ordA lf).size ≤ sizeLine := by rw [hsz]; have := sizeLine_eq; omega
  have hmm := PySem.MeetsSeq.list_pop_at D _ n i u _ _ hf e5 e3 hzz
  refine call_meets PySem.F.slot_list_pop ⟨_, z.1, rfl⟩ PySem.F.entry_list_pop (PySem.F.args_list_pop_2 _ _) hmm ⟨z.1, h _ (n + 1) pr c q e1 (by rw [e1]; simp; omega) (F.change (Heap.SameBut.update ..) z.2.1 z.2.2) ?_⟩
  rw [hg]
  have hs2 : (ordA (pr ++ q)).size ≠ (ordA lf).size := by
    rw [hsz, e1]; unfold ordA; simp
  exact kl_turn _ N a b e4 hs2
section V1
local macro_rules | `(tactic| walk_at "subscriptTail Name Slice ref ref") => `(tactic| (k_here; (with_reducible show wpAny _ _ (subscriptTail _ (PySem.Expr.Slice none (some _) none _) (Value.ref _) (Value.ref _)) _ _ _); k_dflt (refine' slice8 ?F ?N ?l ?z ?p ?q ?_ ?s ?t; (case F => k_asm); (case N => k_asm); (case l => assumption); (case z => assumption); (case p => kmk_part); (case q => kmk_part); (case s => with_unfolding_all rfl); (case t => kmk_pure)); intro D' h' F' N' l1; (replace l1 := allNe_mk (allNe_of_lt (by assumption))); (try k_sweep)))
local macro_rules | `(tactic| walk_at "eval ListComp") => `(tactic| (k_here; k_dflt (refine LCg.ListComp_U (F₀ := by k_asm) (by with_unfolding_all rfl) (by decide) (by rfl) (by decide) (by rfl) ?_)))
local macro_rules | `(tactic| walk_at "CompSrc") => `(tactic| (k_here; refine myStop ?_))
local macro_rules | `(tactic| walk_at "CompEnd") => `(tactic| (k_here; refine myStop ?_))
local macro_rules | `(tactic| walk_at "call builtin:list.pop") => `(tactic| (k_here; k_dflt (refine' pop_K ?k1 ?k2 ?k3 ?k4 ?k5 ?k6 ?_; (case k1 => k_asm); (case k2 => k_asm); (case k3 => k_updF); (case k4 => assumption); (case k5 => assumption); (case k6 => omega); k_whole); intro h' n' pr' c' q' e' l' F' N'; (try k_sweep)))
local macro_rules | `(tactic| walk_at "execs cons") => `(tactic| (k_here; (with_reducible refine ex_keep ?_); (try dsimp only)))
local macro_rules | `(tactic| walk_at "Keep") => `(tactic| ((refine keep_go ?_); intro tk htk etk; (try dsimp only at htk etk)))
local macro_rules | `(tactic| walk_at "binaryOp FloorDiv int int") => `(tactic| (k_here; (with_reducible refine PyProof.Rows.floordiv_int (by assumption) ?_ (Or.inl (PyProof.noPylong_small (by omega))))))
local macro_rules | `(tactic| walk_at "exec For Name List cons nil") => `(tactic| (k_here; refine myStop ?_))
local macro_rules | `(tactic| walk_at "pyIter ref") => `(tactic| (k_here; refine myStop ?_))
local macro_rules | `(tactic| walk_at "exec For") => `(tactic| (k_here; refine myStop ?_))
set_option maxRecDepth 100000 in
set_option maxHeartbeats 0 in
theorem law_order_call {w : World} {p : Program} {loose : List Str} {mean : ExcName → Option Value} {mg mb : Str → Option Value} {dp un : Nat} {gd : Option (List Code)} {cn : Str} {cs : Scope} {a : Addr} {ccd : Value} {cl : List (Str × Addr)} {outer : List Env} {A₀ : Around} {base h₀ : Heap} {L : Addr} {m : Str → Option Value} {news : List (Addr × Obj)} {s : Shared} {Q : Value → Shared → Prop} {sc : Addr} {vs : List Value} {ns : List Int}
  (hl : h₀.IsList sc vs.toArray) (hi : IntsAre vs ns) (hnz : ns.length ≤ 63) (ht1 : 1 ≤ s.toks)
  (B : Below A₀ base outer h₀) (F : Fr h₀ L s.heap m) (KX : (hd0.heap_1 w.params).In h₀) (N : News h₀ L s.heap news) (T : Top p loose mean mg mb h₀) (hk : cs.kind = .function)
  (hd : dp + 5 < recursionLimit) (hu : un + 40 < cLine)
  (hret : ∀ l n h' tk' o, Fr h₀ L h' m → News h₀ L h' ((l, listOf (ordA o) n) :: news) → AllNe l news → (ordC o).Perm [42, 91, 37, 63, 95] → (∀ p ∈ o, 1 ≤ p.2 ∧ p.2 < tk') → Q (.ref l) {s with heap := h', toks := tk'}) :
   wpAny (model pw w) (ktrTop dp un gd cn cs L a ccd cl outer) (call (.ref 99) [.ref sc]) Q (fun _ _ => False) s := by
  refine wpAny_call ?_
  k_dflt walk_at "MY ENTER"
  have hvl : vs.length = ns.length := hi.length
  have hvz : vs.toArray.size ≤ 10000 := by rw [List.size_toArray]; omega
  rename_i g' L' h' FG' _ _ _ _ _
  have hlg : g'.IsList sc vs.toArray := by obtain ⟨o, e, r⟩ := hl; exact ⟨o, FG'.keep _ _ e, r⟩
  k_steps
  rename_i lL hA lA hB tkA htkA etkA D1 h2 F2 N2 l2
  unfold MyStop
  refine LCg.CompSrc.ledger (by rfl) F2 N2 (.head _) (by rw [List.size_toArray, List.length_take]; have := sizeLine_eq; omega) ?_
  intro gg
  refine comp_rest (fun i ys => ∃ ks, IntsAre ys ks) _ ?turn ?fin _ 0 [] (Nat.zero_add _) ⟨[], .nil⟩
  case turn =>
    intro i v ys I3 oI C3 oC D3 m3 h12 tk12 E3 hi2 hys hv hC hx3 F8 N8 off ne
    obtain ⟨k, tq, rfl⟩ := ints_get hi hv
    k_steps
    unfold MyStop
    refine' LCg.CompEnd.intro F8 N8 _ ?sub off ?hS ?rr
    case sub => exact fun p hp => hp
    case hS => exact Or.inr ⟨_, .head _, rfl, _, rfl⟩
    case rr =>
    obtain ⟨ks, hks⟩ := hys
    exact ⟨rfl, ks ++ [_], ints_snoc hks⟩
  case fin =>
    rintro ys ⟨ks, hks⟩
    unfold LCg.FinE
    intro D2 h13 tk13 F9 N9 o9
    k_steps
    unfold MyStop
    k_dflt (refine' For_turns (by k_asm) ?_)
    k_whole
    k_steps
    unfold MyStop
    rename_i hC tkC tC hD tkD htkD etkD lO hE a1 a2 a3 a4 hF tkE htkE etkE lS hS FS NS b1 b2 b3 b4 b5
    have hlO : @Ne Nat lO lL := fun e => by rw [e] at a3; exact Nat.lt_irrefl _ a3
    have hlS : @Ne Nat lS lL := fun e => by rw [e] at b4; exact Nat.lt_irrefl _ b4
    have hlSO : @Ne Nat lS lO := fun e => by rw [e] at b1; exact Nat.lt_irrefl _ b1
    have hnO := allNe_mk (allNe_of_lt a4)
    have hnS := allNe_mk (allNe_of_lt b5)
    have hnO0 : AllNe lO news := hnO
    have NS2 := reorder NS
    clear NS
    refine ints_items (by rfl) FS NS2 (.tail _ (.tail _ (.head _))) fun I hI => ?_
    refine' my_rest (σ := TS3) (keep := [(lS, listOf (([(5, ?t5), (4, ?t4), (3, ?t3), (2, ?t2), (1, ?t1)] : List (Nat × Tok)).map fun p => Value.int (p.1 : Int) p.2).toArray 0)]) intItm (fun c => [(lO, listOf (ordA c.od) c.n1), (lL, listOf (ordA c.lf) c.n2)]) (fun c => [(Str.ofString "order", .ref lO), (Str.ofString "left", .ref lL), (Str.ofString "told", .int c.told c.tt)]) (fun r c => r.map (·.1) = down c.lf.length ∧ c.lf.length ≤ 5 ∧ (ordC (c.od ++ c.lf)).Perm [42, 91, 37, 63, 95] ∧ (∀ p ∈ c.od ++ c.lf, 1 ≤ p.2 ∧ p.2 < tkA) ∧ 0 ≤ c.told ∧ c.told ≤ 120) (base := (lS, listOf (([(5, ?t5), (4, ?t4), (3, ?t3), (2, ?t2), (1, ?t1)] : List (Nat × Tok)).map fun p => Value.int (p.1 : Int) p.2).toArray 0) :: news) ?hb ?hoff (fun _ => ⟨.tail _ (.tail _ (.head _)), trivial⟩) ?turn ?fin _ ⟨[(42, ?u0), (91, ?u1), (37, ?u2), (63, ?u3), (95, ?u4)], [], ?td, ?tt, 0, 0⟩ _ ?inv ?ffm
    case ffm => walk_at "MY FM"
    case hb =>
      intro p hp
      exact hI p (by rcases List.mem_cons.mp hp with rfl | hp; exact .tail _ (.tail _ (.head _)); exact .tail _ (.tail _ (.tail _ hp)))
    case hoff =>
      intro c p hp
      rcases List.mem_cons.mp hp with rfl | hp
      · exact fun q => by injection q with q; exact absurd q (by decide)
      · rw [List.mem_singleton.mp hp]; exact fun q => by injection q with q; exact absurd q (by decide)
    case inv =>
      refine ⟨rfl, Nat.le_refl _, .refl _, ?_, Int.fmod_nonneg_of_pos _ (by decide), Int.le_of_lt (Int.fmod_lt_of_pos _ (by decide))⟩
      intro p hp
      simp only [List.nil_append, List.mem_cons, List.not_mem_nil, or_false] at hp
      rcases hp with rfl | rfl | rfl | rfl | rfl
      all_goals (show @LE.le Nat _ 1 _ ∧ @LT.lt Nat _ _ _)
      all_goals omega
    case turn =>
      rintro ⟨k, tz⟩ r ⟨lf, od, told, tt, n1, n2⟩ u v h9 tk9 o ⟨hr, hlf, hpm, hto, h0, h120⟩ rfl ho F5 N5 hne
      simp only [List.cons_append, List.nil_append] at F5 N5 hne
      dsimp only at hr hlf hpm hto h0 h120
      rcases lf with _ | ⟨c0, lf0⟩
      · cases hr
      rw [List.map_cons, List.length_cons, down, List.cons.injEq] at hr
      obtain ⟨hk1, hr⟩ := hr
      dsimp only at hk1
      subst hk1
      have hlOI : @Ne Nat lO I := hne _ (.head _)
      have hlLI : @Ne Nat lL I := hne _ (.tail _ (.head _))
      have hlSI : @Ne Nat lS I := hne _ (.tail _ (.tail _ (.head _)))
      have hIn : AllNe I news := allNe_mk fun p hp => hne p (.tail _ (.tail _ (.tail _ hp)))
      dsimp only
      obtain ⟨K, hK⟩ : ∃ K, K = lf0.length + 1 := ⟨_, rfl⟩
      rw [← hK]
      have hpos : (0 : Int) < (K : Int) := by omega
      have hnz : (K : Int) ≠ 0 := by omega
      have hK5 : K ≤ 5 := by rw [List.length_cons] at hlf; omega
      have hf1 := Int.fmod_nonneg_of_pos told hpos
      have hf2 : told.fmod (K : Int) < ((c0 :: lf0).length : Int) := by
        have := Int.fmod_lt_of_pos told hpos
        rw [List.length_cons, ← hK]; exact this
      have hodl : od.length ≤ 5 := by
        have := hpm.length_eq
        simp [ordC] at this
        omega
      have hza : (ordA od).size ≤ sizeLine := by unfold ordA; have := sizeLine_eq; simp; omega
      k_steps
      rename_i pr c q e3 l3 y1 y2 y3 y4 y5 y6 y7 y8 y9 y10
      refine' my_fend ⟨pr ++ q, od ++ [c], told.fdiv (K : Int), _, _, _⟩ ?fr ?nw ?hit ?led ?fm2 ?inv2
      case fr => k_asm
      case nw => k_asm
      case hit => k_mem
      case led => dsimp only; rw [← ordA_push]; walk_at "MY LED"
      case fm2 => dsimp only; walk_at "MY FM"
      case inv2 =>
        have hlen : (pr ++ q).length = lf0.length := by rw [List.length_cons] at l3; omega
        have hp1 : (od ++ [c] ++ (pr ++ q)).Perm (od ++ c0 :: lf0) := by
          rw [e3, List.append_assoc]
          exact List.Perm.append_left _ (show (c :: (pr ++ q)).Perm (pr ++ c :: q) from List.perm_middle.symm)
        refine ⟨by dsimp only; rw [hlen]; exact hr, by dsimp only; rw [hlen]; omega, (hp1.map Prod.fst).trans hpm, fun p hp => hto p (hp1.mem_iff.mp hp), Int.fdiv_nonneg h0 (Int.le_of_lt hpos), ?_⟩
        show told.fdiv (K : Int) ≤ 120
        rw [Int.fdiv_eq_ediv_of_nonneg _ (Int.le_of_lt hpos)]
        exact Int.le_trans (Int.ediv_le_self _ h0) h120
    case fin =>
      rintro ⟨lf, od, told, tt, n1, n2⟩ u h9 tk9 ⟨hr, hlf, hpm, hto, h0, h120⟩ F5 N5
      simp only [List.cons_append, List.nil_append] at F5 N5
      dsimp only at hr hlf hpm hto h0 h120
      have hlf0 : lf = [] := by
        cases lf with
        | nil => rfl
        | cons _ _ => cases hr
      subst hlf0
      rw [List.append_nil] at hpm hto
      k_steps
      rename_i tkY htkY etkY kF kN Tc kX
      refine' hret _ n1 _ _ od kF ?nn hnO0 hpm ?kk
      case nn =>
        intro p hp
        refine kN p ?_
        rcases List.mem_cons.mp hp with rfl | hp
        · exact .head _
        · exact .tail _ (.tail _ (.tail _ hp))
      case kk =>
        intro p hp
        have h7 := hto p hp
        refine ⟨h7.1, ?_⟩
        have h8 : @LT.lt Nat _ p.2 tkA := h7.2
        show @LT.lt Nat _ _ _
        omega
end V1
section
variable {w : World} {A : Around} {E : Value → Shared → Prop} {s : Shared}
theorem kv_keysOf (l : List KV) : KeysOf (strKind pw w) (l.map (KV.ent w)).toArray := fun e he => by
  obtain ⟨x, _, rfl⟩ := List.mem_map.mp (List.mem_toArray.mp he)
  exact ⟨mkS x.k, kv_is w _ _, rfl⟩
theorem dset_new {D : Addr} {l : List KV} {ep : Nat} {e : KV} {Q : Unit → Shared → Prop} (ho : s.heap.get? D = some (dO w l ep)) (hn : (l.map KV.k).Nodup) (hk : e.k ∉ l.map KV.k) (hz : l.length ≤ 1000)
    (hQ : ∀ h', h'.get? D = some (dO w (l ++ [e]) (ep + 1)) → Heap.SameBut D s.heap h' → Q () { s with heap := h', toks := s.toks + 1 }) :
    wpAny (model pw w) A (dictSet D (.str (mkS e.k) e.tk) (.str (mkS e.v) e.tv)) Q E s := by
  have hkey : (strKind pw w).is (mkS e.k) (.str (mkS e.k) e.tk) = true := kv_is w _ _
  have hd : (dO w l ep).data = .dict (l.map (KV.ent w)).toArray ep := rfl
  have hp := kvP_pairs w l
  have hes : (l.map (KV.ent w)).toArray.size ≤ sizeLine := by rw [List.size_toArray, List.length_map]; have := sizeLine_eq; omega
  unfold dictSet
  try with_reducible refine wpAny_holding ?_
  refine wpAny_bind ((strKind pw w).pyHash hkey ?_)
  unfold dictSetHashed
  try with_reducible refine wpAny_holding ?_
  refine wpAny_bind (wpAny_dictFind_of (s := { s with toks := s.toks + 1 }) hkey ho hd (kv_keysOf l) ?_)
  have hidx : ((l.map (KV.ent w)).toArray.findIdx? fun e' => (strKind pw w).is (mkS e.k) e'.key) = none := by
    have h1 := hp.findIdx (mkS e.k)
    have h2 : ((kvP l).findIdx? fun kv => decide (kv.1 = mkS e.k)) = none := by
      rw [List.findIdx?_eq_none_iff]
      intro kv hkv
      obtain ⟨x, hx, rfl⟩ := List.mem_map.mp hkv
      refine decide_eq_false fun q => hk ?_
      have q' : mkS x.k = mkS e.k := q
      rw [← mkS_inj q']
      exact List.mem_map_of_mem hx
    rw [h2] at h1
    rw [List.findIdx?_toArray]
    exact h1
  rw [hidx]
  refine wpAny_bind (wpAny_rule (wpAny_updateDictKeys (hz := hes) ho hd (hQ _ ?_ (Heap.SameBut.update ..))))
  rw [Heap.get?_update_self _ ho rfl]
  show some _ = some _
  congr 1
  show Obj.mapDictKeys (·.push (e.ent w)) (dO w l ep) = _
  unfold Obj.mapDictKeys dO
  simp
end
noncomputable def DEnd (w : World) (h₀ : Heap) (L : Addr) (m : Str → Option Value) (s₁ : Shared) (I : Addr) (oI : Obj) (C : Addr) (oC : Obj) (D : Addr) (l : List KV) (ep : Nat) (news : List (Addr × Obj)) (J : List KV → Prop) (kv vv : Value) (s₂ : Shared) : Prop :=
  ∃ h' tk e, s₂ = { s₁ with heap := h', toks := tk } ∧ s₁.toks ≤ tk ∧ Fr h₀ L h' m ∧ News h₀ L h' ((I, oI) :: (C, oC) :: (D, dO w l ep) :: news) ∧ kv = .str (mkS e.k) e.tk ∧ vv = .str (mkS e.v) e.tv ∧ e.k ∉ l.map KV.k ∧ J (l ++ [e])
section
variable {w : World} {A : Around} {E : Value → Shared → Prop} {s : Shared} {h₀ : Heap} {L : Addr} {m : Str → Option Value} {env : Env}
theorem block_D {kx vx iter : PySem.Expr} {x : Str} {px : Pos} {scope : Scope} {cl : List (Str × Addr)} {pos : Pos} {s₂ : Shared} {I ax : Addr} {its : Array Value} {kk : Nat} {news : List (Addr × Obj)} {J : Nat → List KV → Prop}
    {RR : Value → Addr → Result → Shared → Prop} (hh : A.handled = none) (hax : (ax, listOf its kk) ∈ news)
    (hcell : ∀ y ∈ scope.names, y.2 ≠ .cell) (hkind : scope.kind = .function) (hx : scope.names.lookup x = some .local)
    (hst : s₂.heap.IsListIter I ax 0) (hIlt : I < s₂.heap.objs.size)
    (F : Fr h₀ L s₂.heap m) (N : News h₀ L s₂.heap news) (hIL : L ≠ I) (hI₀ : h₀.get? I = none) (off : ∀ p ∈ news, p.1 ≠ I)
    (hJ : ∀ i l, J i l → (l.map KV.k).Nodup ∧ l.length ≤ 1000) (hJ0 : J 0 [])
    (turn : ∀ i v l I oI C oC D ep m₂ h tk (E' : Value → Shared → Prop), J i l → s₂.toks ≤ tk → its[i]? = some v → LCg.NsObj oC m₂ → m₂ x = some v → Fr h₀ L h m → News h₀ L h ((I, oI) :: (C, oC) :: (D, dO w l ep) :: news) → LCg.Off3 I C D news → ((@Ne Nat I C) ∧ (@Ne Nat I D) ∧ (@Ne Nat C D)) →
      wpAny (model pw w) A (eval kx (compEnvC scope cl C env)) (fun kv s₄ => wpAny (model pw w) A (eval vx (compEnvC scope cl C env)) (fun vv s₅ => DEnd w h₀ L m { s₂ with heap := h, toks := tk } I oI C oC D l ep news (J (i + 1)) kv vv s₅) E' s₄) E' { s₂ with heap := h, toks := tk })
    (hRR : ∀ D C h tk m' l ep, Fr h₀ L h m → News h₀ L h ((D, dO w l ep) :: news) → LCg.Off1 D news → h.Ns C m' → h₀.get? C = none → h₀.get? D = none → C ≠ L → D ≠ L → C ≠ D → (∀ p ∈ news, p.1 ≠ C) → L < D → J its.size l → RR (.ref D) C (.ok .next) { s₂ with heap := h, toks := tk }) :
    wpAny (model pw w) A newDict (fun acc s₃ => wpAny (model pw w) A (newFunctionEnv scope env.globals cl [] env.qual none .none (some env)) (fun cenv s₄ =>
      codeAny (model pw w) A (.compStart (.DictComp kx vx [⟨.Name x px, iter, [], 0⟩] scope pos) 0 (.ref I) acc { cenv with scope := relabel scope env }) (RR acc cenv.locals) s₄) E s₃) E s₂ := by
  have haxI : ax ≠ I := off _ hax
  have W := Walks.list (prog := pw) (w := w) hh I ax haxI its
  refine wpAny_newObj_type (wpAny_newFunctionEnv hcell (by intro y hy; simp at hy) (fun h₁ hns₁ hsb₁ => ?_) hkind)
  dsimp only at hns₁ hsb₁ ⊢
  generalize hH2 : s₂.heap.push { cls := .type "dict", dict := none, data := .dict #[] } = H2 at hns₁ hsb₁ ⊢
  have hC : H2.objs.size = s₂.heap.objs.size + 1 := by rw [← hH2, Heap.size_push]
  have hDC : s₂.heap.objs.size ≠ H2.objs.size := by rw [hC]; exact Nat.ne_of_lt (Nat.lt_succ_self _)
  have below : ∀ b, b < s₂.heap.objs.size → b ≠ H2.objs.size ∧ b ≠ s₂.heap.objs.size := fun b hb => ⟨by rw [hC]; exact Nat.ne_of_lt (Nat.lt_succ_of_lt hb), Nat.ne_of_lt hb⟩
  have haxlt : ax < s₂.heap.objs.size := Heap.lt_size (N _ hax).1
  have hfp : ∀ b ∈ [I, ax], b < s₂.heap.objs.size := by
    intro b hb
    rcases List.mem_cons.mp hb with rfl | hb
    · exact hIlt
    · rw [List.mem_singleton.mp hb]; exact haxlt
  have hDf : s₂.heap.objs.size ∉ [I, ax] := fun hm => Nat.lt_irrefl _ (hfp _ hm)
  have hCf : H2.objs.size ∉ [I, ax] := fun hm => by have := hfp _ hm; rw [hC] at this; exact Nat.lt_irrefl _ (Nat.lt_of_succ_lt this)
  have old : ∀ b o, s₂.heap.get? b = some o → h₁.get? b = some o := fun b o e => hsb₁.extBut b o (below b (Heap.lt_size e)).1 (Heap.get?_push_of_some _ (hH2 ▸ Heap.get?_push_of_some _ e))
  have hacc : h₁.get? s₂.heap.objs.size = some (dO w [] 0) := hsb₁.extBut _ _ hDC (Heap.get?_push_of_some _ (hH2 ▸ Heap.get?_push_size _ rfl))
  have hst₁ : h₁.IsListIter I ax 0 ∧ h₁.IsList ax its := by
    have hst0 : s₂.heap.IsListIter I ax 0 ∧ s₂.heap.IsList ax its := ⟨hst, ⟨_, (N _ hax).1, rfl, _, rfl⟩⟩
    exact W.frame 0 _ _ hst0 fun b _ o e => old b o e
  have fresh : ∀ a, s₂.heap.objs.size ≤ a → s₂.heap.get? a = none := fun a ha => by
    cases e : s₂.heap.get? a with
    | none => rfl
    | some o' => exact absurd (Heap.lt_size e) (Nat.not_lt.mpr ha)
  have fresh₀ : ∀ a, s₂.heap.objs.size ≤ a → h₀.get? a = none := fun a ha => by
    cases e : h₀.get? a with
    | none => rfl
    | some o' => have := F.keep a o' e; rw [fresh a ha] at this; cases this
  have hD₀ : h₀.get? s₂.heap.objs.size = none := fresh₀ _ (Nat.le_refl _)
  have hC₀ : h₀.get? H2.objs.size = none := fresh₀ _ (by rw [hC]; exact Nat.le_succ _)
  have hLlt : L < s₂.heap.objs.size := F.ns.lt
  have hDL : s₂.heap.objs.size ≠ L := Ne.symm (below L hLlt).2
  have hCL : H2.objs.size ≠ L := Ne.symm (below L hLlt).1
  have hCI : I ≠ H2.objs.size := (below I hIlt).1
  have hDI : I ≠ s₂.heap.objs.size := (below I hIlt).2
  have off₀ : LCg.Off3 I H2.objs.size s₂.heap.objs.size news := LCg.Off3.of fun p hp => ⟨off p hp, (below _ (Heap.lt_size (N p hp).1)).1, (below _ (Heap.lt_size (N p hp).1)).2⟩
  have loop : ∀ s₃ : Shared, s₃ = { s₂ with heap := h₁, toks := s₂.toks + ([] : List (Str × Value)).length } →
      codeAny (model pw w) A (.compLoop (.DictComp kx vx [⟨.Name x px, iter, [], 0⟩] scope pos) 0 (.ref I) (.ref s₂.heap.objs.size) (compEnvC scope cl H2.objs.size env))
        (RR (.ref s₂.heap.objs.size) H2.objs.size) s₃ := by
    rintro s₃ rfl
    refine codeAny_compLoop_testsD
      (fun k s' => ∃ h' tk i l ep m', s' = { s₂ with heap := h', toks := tk } ∧ i ≤ its.size ∧ k = its.size + 1 - i ∧ s₂.toks ≤ tk ∧ (h'.IsListIter I ax i ∧ h'.IsList ax its) ∧ Fr h₀ L h' m ∧ h'.Ns H2.objs.size m' ∧ News h₀ L h' ((s₂.heap.objs.size, dO w l ep) :: news) ∧ J i l) ?_ (its.size + 1)
      ⟨h₁, _, 0, [], 0, _, rfl, Nat.zero_le _, rfl, Nat.le_add_right _ _, hst₁, F.keeps old, hns₁, fun p hp => ?_, hJ0⟩
    · rintro k s' ⟨h', tk, i, l, ep, m', rfl, hi, rfl, hle, hst', F', hn', N', hJi⟩
      have off3 := off₀.mem
      refine wpAny_with_toks (n := s₂.toks) hle ?_
      by_cases hlt : i < its.size
      · refine W.item i _ _ _ hlt hst' fun v h₂ tk₂ hPv hst₂ hk₂ => ?_
        intro hle2
        have hle3 : s₂.toks ≤ tk₂ := hle2
        refine wpAny_assign_Name (wpAny_storeName_local (lookup_relabel_local hx) (hn'.at' fun o e => hk₂ _ o (by simpa using Ne.symm hCI) e) (fun h₃ hn₃ hs₃ => ?_) (by simp [compEnvC, relabel, hkind]))
        refine wpAny_tests_nil ?_
        simp only [if_true]
        have hst₃ : h₃.IsListIter I ax (i + 1) ∧ h₃.IsList ax its := W.frame _ _ _ hst₂ fun b hb o e => hs₃.extBut b o (fun q => hCf (by have q' : b = H2.objs.size := q; rw [← q']; exact hb)) e
        obtain ⟨oI, heI, _⟩ := hst₃.1
        obtain ⟨oC, heC, hoC⟩ := LCg.ns_obj hn₃
        have F₃ : Fr h₀ L h₃ m := (LCg.fr_but F' hk₂ hIL hI₀).change hs₃ hCL hC₀
        have N₂ : News h₀ L h₂ ((s₂.heap.objs.size, dO w l ep) :: news) := LCg.news_but N' hk₂ fun p hp => by
          rcases List.mem_cons.mp hp with rfl | hp
          · exact Ne.symm hDI
          · exact (off3 p hp).1
        have N₃ : News h₀ L h₃ ((I, oI) :: (H2.objs.size, oC) :: (s₂.heap.objs.size, dO w l ep) :: news) := fun p hp => by
          rcases List.mem_cons.mp hp with rfl | hp
          · exact ⟨heI, Ne.symm hIL, hI₀⟩
          · rcases List.mem_cons.mp hp with rfl | hp
            · exact ⟨heC, hCL, hC₀⟩
            · have z := N₂ p hp
              refine ⟨hs₃.extBut _ _ ?_ z.1, z.2⟩
              rcases List.mem_cons.mp hp with rfl | hp
              · exact hDC
              · exact (off3 p hp).2.1
        refine wpAny_mono (turn i v l I oI H2.objs.size oC s₂.heap.objs.size ep _ h₃ _ _ hJi (Nat.le_succ_of_le hle3) hPv hoC (by simp) F₃ N₃ off₀ ⟨hCI, hDI, Ne.symm hDC⟩) (fun kv s₄ h₄ => ?_) fun _ _ e => e
        refine wpAny_mono h₄ (fun vv s₅ h₅ => ?_) fun _ _ e => e
        obtain ⟨h₅, tk₅, e, rfl, hle5, F₅, N₅, rfl, rfl, hnew, hJ5⟩ := h₅
        have zI := (N₅ (I, oI) List.mem_cons_self).1
        have zC := (N₅ (H2.objs.size, oC) (List.mem_cons_of_mem _ List.mem_cons_self)).1
        have zD := (N₅ (s₂.heap.objs.size, dO w l ep) (List.mem_cons_of_mem _ (List.mem_cons_of_mem _ List.mem_cons_self))).1
        have N₅' : News h₀ L h₅ news := fun p hp => N₅ p (List.mem_cons_of_mem _ (List.mem_cons_of_mem _ (List.mem_cons_of_mem _ hp)))
        have hst₅ : h₅.IsListIter I ax (i + 1) ∧ h₅.IsList ax its := by
          refine ⟨?_, ⟨_, (N₅' _ hax).1, rfl, _, rfl⟩⟩
          obtain ⟨o', q, r⟩ := hst₃.1
          rw [heI] at q; cases q
          exact ⟨_, zI, r⟩
        refine dset_new zD (hJ _ _ hJi).1 hnew (hJ _ _ hJi).2 fun h₆ hD₆ hs₆ => ?_
        refine ⟨its.size + 1 - (i + 1), by omega, h₆, _, i + 1, l ++ [e], ep + 1, _, rfl, hlt, rfl, Nat.le_succ_of_le (Nat.le_trans (Nat.le_succ_of_le hle3) hle5), W.frame _ _ _ hst₅ fun b hb o e => hs₆.extBut b o (fun q => hDf (q ▸ hb)) e, F₅.change hs₆ hDL hD₀,
          (hoC.ns zC).sameBut hs₆ (Ne.symm hDC), fun p hp => ?_, hJ5⟩
        rcases List.mem_cons.mp hp with rfl | hp
        · exact ⟨hD₆, hDL, hD₀⟩
        · exact ⟨hs₆.extBut _ _ (off3 p hp).2.2 (N₅' p hp).1, (N₅' p hp).2⟩
      · obtain rfl : i = its.size := Nat.le_antisymm hi (Nat.not_lt.mp hlt)
        refine W.done _ _ _ hst' fun h₂ tk₂ hk₂ => ?_
        intro _
        exact hRR _ _ h₂ tk₂ _ l ep (LCg.fr_but F' hk₂ hIL hI₀) (LCg.news_but N' hk₂ fun p hp => by
          rcases List.mem_cons.mp hp with rfl | hp
          · exact Ne.symm hDI
          · exact (off3 p hp).1) off₀.one (hn'.at' fun o e => hk₂ _ o (by simpa using Ne.symm hCI) e) hC₀ hD₀ hCL hDL (Ne.symm hDC) (fun p hp => (off3 p hp).2.1) hLlt hJi
    · rcases List.mem_cons.mp hp with rfl | hp
      · exact ⟨hacc, hDL, hD₀⟩
      · exact ⟨old _ _ (N p hp).1, (N p hp).2⟩
  exact codeAny_compStart_dict (loop _ rfl) (W.self 0 _ _ _ hst₁ (loop _ rfl))
noncomputable def DSrc (w : World) (A : Around) (h₀ : Heap) (L : Addr) (m : Str → Option Value) (env : Env) (kx vx : PySem.Expr) (x : Str) (scope : Scope) (cl : List (Str × Addr)) (Q : Value → Shared → Prop) (xv : Value) (s₁ : Shared) : Prop :=
  ∃ ax its kk news, ∃ J : Nat → List KV → Prop, xv = .ref ax ∧ A.handled = none ∧ Fr h₀ L s₁.heap m ∧ News h₀ L s₁.heap news ∧ (ax, listOf its kk) ∈ news ∧ (∀ i l, J i l → (l.map KV.k).Nodup ∧ l.length ≤ 1000) ∧ J 0 [] ∧
    (∀ i v l I oI C oC D ep m₂ h tk (E' : Value → Shared → Prop), J i l → s₁.toks ≤ tk → its[i]? = some v → LCg.NsObj oC m₂ → m₂ x = some v → Fr h₀ L h m → News h₀ L h ((I, oI) :: (C, oC) :: (D, dO w l ep) :: news) → LCg.Off3 I C D news → ((@Ne Nat I C) ∧ (@Ne Nat I D) ∧ (@Ne Nat C D)) →
      wpAny (model pw w) A (eval kx (compEnvC scope cl C env)) (fun kv s₄ => wpAny (model pw w) A (eval vx (compEnvC scope cl C env)) (fun vv s₅ => DEnd w h₀ L m { s₁ with heap := h, toks := tk } I oI C oC D l ep news (J (i + 1)) kv vv s₅) E' s₄) E' { s₁ with heap := h, toks := tk }) ∧
    ∀ l D h tk ep, J its.size l → Fr h₀ L h m → News h₀ L h ((D, dO w l ep) :: news) → LCg.Off1 D news → L < D → Q (.ref D) { s₁ with heap := h, toks := tk }
theorem DictComp_J {kx vx iter : PySem.Expr} {x : Str} {px : Pos} {scope : Scope} {cl : List (Str × Addr)} {pos : Pos} {Q : Value → Shared → Prop} (F₀ : Fr h₀ L s.heap m)
    (hclos : closureFor scope env = pure cl) (hcell : ∀ y ∈ scope.names, y.2 ≠ .cell) (hkind : scope.kind = .function)
    (hnames : ∀ y ∈ scope.names, y.2 = .local → scope.names.lookup y.1 = some .local) (hx : scope.names.lookup x = some .local)
    (h : wpAny (model pw w) A (eval iter env) (DSrc w A h₀ L m env kx vx x scope cl Q) E s)
    (hs : ∀ x, foldedSetIterable iter env x = pure x := by intro _; rfl) :
    wpAny (model pw w) A (eval (.DictComp kx vx [⟨.Name x px, iter, [], 0⟩] scope pos) env) Q E s := by
  rw [arm_eval_DictComp]
  refine wpAny_comprehension_free (use := none) rfl hs hclos hkind hnames (wpAny_mono h (fun xv s₁ h₁ => ?_) fun _ _ e => e)
  obtain ⟨ax, its, kk, news, J, rfl, hh, F, N, hax, hJ, hJ0, turn, fin⟩ := h₁
  have hl : s₁.heap.IsList ax its := ⟨_, (N _ hax).1, rfl, _, rfl⟩
  have up : ∀ b o, s₁.heap.get? b = some o → (s₁.heap.push { cls := .type "list_iterator", data := .fields #[.ref ax, .int 0 0] }).get? b = some o := fun b o e => Heap.get?_push_of_some _ e
  refine wpAny_pyIter_list hl ?_
  refine block_D (J := J) (its := its) (RR := fun acc C => compPost (model pw w) A E none Q acc C) hh hax hcell hkind hx ⟨_, Heap.get?_push_size _ rfl, rfl, rfl⟩ (by show s₁.heap.objs.size < (s₁.heap.push _).objs.size; rw [Heap.size_push]; exact Nat.lt_succ_self _) (F.keeps up) (N.grown up) (Nat.ne_of_lt F.ns.lt) (next_is_new F) (fun p hp => Nat.ne_of_lt (Heap.lt_size (N p hp).1)) hJ hJ0 turn ?_
  intro D C h tk m' l ep F' N' o1 hn hC₀ hD₀ hCL hDL hCD offC hLD hJl
  refine ⟨m', hn, fun h'' hs'' => fin l D h'' tk ep hJl (F'.change hs'' hCL hC₀) (fun p hp => ?_) o1 hLD⟩
  refine ⟨hs''.extBut _ _ ?_ (N' p hp).1, (N' p hp).2⟩
  rcases List.mem_cons.mp hp with rfl | hp
  · exact Ne.symm hCD
  · exact offC p hp
end
local macro_rules | `(tactic| walk_at "PAD") => `(tactic| fail)
theorem not_sys {w : World} {h₀ h : Heap} {L D : Addr} {m : Str → Option Value} (F : Fr h₀ L h m) (KX : (hd0.heap_1 w.params).In h₀) (hD : L < D) : (D == sysModules) = false := by
  have e : (hd0.heap_1 w.params).lookup 48 = some { cls := .type "dict", data := .dict #[] 0 } := by kernel_rfl
  have h1 := Heap.lt_size (KX 48 _ e)
  have h2 := F.above
  have h3 : @LT.lt Nat _ 1 D := by
    have a1 : @LT.lt Nat _ 48 h₀.objs.size := h1
    have a2 : @LE.le Nat _ h₀.objs.size L := h2
    have a3 : @LT.lt Nat _ L D := hD
    omega
  exact beq_eq_false_iff_ne.mpr fun q => by rw [q] at h3; exact absurd h3 (by decide)
noncomputable def laidV (c : Nat) : List Nat := if c = 37 then [42] else if c = 95 then [63] else [91, c, 93]
/-- the table by an order -/
noncomputable def TabKV (cs : List Nat) (l : List KV) : Prop := l.map (fun e => (e.k, e.v)) = cs.map fun c => ([c], laidV c)
noncomputable def TokOk (l : List KV) : Prop := ∀ e ∈ l, (@Ne Nat e.tk 0) ∧ (@Ne Nat e.tv 0) ∧ (@Ne Nat e.tk e.tv)
theorem tabKV_keys {cs : List Nat} {l : List KV} (h : TabKV cs l) : l.map KV.k = cs.map fun c => [c] := by
  have := congrArg (List.map Prod.fst) h
  rw [List.map_map, List.map_map] at this
  exact this
theorem ordC_take (o : List (Nat × Tok)) (i : Nat) : ordC (o.take i) = (ordC o).take i := by unfold ordC; rw [List.map_take]
theorem tabKV_nodup {o : List (Nat × Tok)} {i : Nat} {l : List KV} (hon : (ordC o).Nodup) (hoz : o.length ≤ 100) (h : TabKV (ordC (o.take i)) l) : (l.map KV.k).Nodup ∧ l.length ≤ 1000 := by
  have hk := tabKV_keys h
  constructor
  · rw [hk, ordC_take]
    refine List.Pairwise.map _ (fun a b hab q => hab (by simpa using q)) (List.Sublist.nodup (List.take_sublist _ _) hon)
  · have := congrArg List.length hk
    rw [List.length_map, List.length_map] at this
    unfold ordC at this
    rw [List.length_map, List.length_take] at this
    omega
theorem laid_vals {w : World} {o : Obj} {tk : Nat}
    (h : o.IsDictOf (PySem.strKind pw w) (strPairs [(.str (Str.ofString "[") tk, .str (Str.ofString "[[]") (tk + 1)), (.str (Str.ofString "*") (tk + 1 + 1), .str (Str.ofString "[*]") (tk + 1 + 1 + 1)), (.str (Str.ofString "?") (tk + 1 + 1 + 1 + 1), .str (Str.ofString "[?]") (tk + 1 + 1 + 1 + 1 + 1)), (.str (Str.ofString "%") (tk + 1 + 1 + 1 + 1 + 1 + 1), .str (Str.ofString "*") (tk + 1 + 1 + 1 + 1 + 1 + 1 + 1)), (.str (Str.ofString "_") (tk + 1 + 1 + 1 + 1 + 1 + 1 + 1 + 1), .str (Str.ofString "?") (tk + 1 + 1 + 1 + 1 + 1 + 1 + 1 + 1 + 1))])) :
    ∃ kvs, o.IsDictOf (PySem.strKind pw w) kvs ∧ ∀ c, (c = 42 ∨ c = 91 ∨ c = 37 ∨ c = 63 ∨ c = 95) → ∃ t, valueAt kvs (mkS [c]) = some (.str (mkS (laidV c)) t) ∧ @LE.le Nat _ tk t := by
  refine ⟨_, h, ?_⟩
  rw [show Str.ofString "*" = mkS [42] by decide, show Str.ofString "[" = mkS [91] by decide, show Str.ofString "%" = mkS [37] by decide, show Str.ofString "?" = mkS [63] by decide, show Str.ofString "_" = mkS [95] by decide, show Str.ofString "[[]" = mkS [91, 91, 93] by decide, show Str.ofString "[*]" = mkS [91, 42, 93] by decide, show Str.ofString "[?]" = mkS [91, 63, 93] by decide]
  rintro c (rfl | rfl | rfl | rfl | rfl)
  all_goals exact ⟨_, rfl, by omega⟩
theorem nodup_take {α : Type} {x : α} : ∀ {l : List α} {i : Nat}, l.Nodup → l[i]? = some x → x ∉ l.take i
  | [], i, _, h => by simp at h
  | y :: l, 0, _, _ => by simp
  | y :: l, i + 1, hn, h => by
    have hn' := List.nodup_cons.mp hn
    have h' : l[i]? = some x := h
    rw [List.take_succ_cons]
    intro hm
    rcases List.mem_cons.mp hm with rfl | hm
    · exact hn'.1 (List.mem_of_getElem? h')
    · exact nodup_take hn'.2 h' hm
theorem off1_ne {D : Addr} {a b : Addr × Obj} {news : List (Addr × Obj)} (h : LCg.Off1 D (a :: b :: news)) : AllNe D news := by
  have g : ∀ l : List (Addr × Obj), LCg.Off1 D l → AllNe D l := by
    intro l
    induction l with
    | nil => intro _; trivial
    | cons p r ih => intro h; exact ⟨h.1, ih h.2⟩
  exact g _ h.2.2
theorem ordA_get {o : List (Nat × Tok)} {i : Nat} {v : Value} (h : (ordA o)[i]? = some v) : ∃ c t, o[i]? = some (c, t) ∧ v = .str (mkS [c]) t := by
  unfold ordA at h
  have h' : (o.map fun p => Value.str (mkS [p.1]) p.2)[i]? = some v := by simpa using h
  rw [List.getElem?_map] at h'
  cases hl : o[i]? with
  | none => rw [hl] at h'; cases h'
  | some p => rw [hl] at h'; exact ⟨p.1, p.2, rfl, (Option.some.inj h').symm⟩
theorem allNe_succ {d : Addr} : ∀ {l : List (Addr × Obj)}, AllLt d l → AllNe (d + 1) l
  | [], _ => trivial
  | p :: r, h => ⟨fun e => by have h1 : @LT.lt Nat _ p.1 d := h.1; have h2 : @Eq Nat p.1 (d + 1) := e; omega, allNe_succ h.2⟩
section
variable {prog : Program} {w : World} {A₀ A : Around} {s : Shared} {base h₀ : Heap} {outer : List Env} {L : Addr} {m mg mb : Str → Option Value} {env : Env} {news : List (Addr × Obj)} {K : Frag} {p : Program} {loose : List Str} {mean : ExcName → Option Value}
  {R : Result → Shared → Prop} {name qual : Str} {params : Arguments} {body : List Stmt} {scope : Scope} {dV kV doc pm cdv ct oc : Value} {an od : Option Addr} {osl : Array (Option Value)} {f : Addr} {args : Args} {binds : List (Str × Value)}
/-- the entry of a def with cells, which tells that the tokens only grow -/
theorem code_defT
    (B : Below A₀ base outer h₀) (F : Fr h₀ L s.heap m) (X₀ : K.In h₀) (N : News h₀ L s.heap news) (T : Top p loose mean mg mb h₀) (hA : A.frames = some (env :: outer)) (hf : env.frame = some L) (hke : env.scope.kind = .function)
    (ho : K.lookup f = some ⟨oc, od, .func (fnOf name qual params body scope dV kV doc pm an cdv ct), osl⟩) (hcd : codeIn K cdv qual = true) (hroom : A.depth < recursionLimit)
    (hbind : BindsTo s (fnOf name qual params body scope dV kV doc pm an cdv ct) args binds) (hkind : (binds.all fun y => scope.names.lookup y.1 == some .local || scope.names.lookup y.1 == some .cell) = true)
    (hnd : ((cellsFrom 0 scope.names []).map (·.1)).Nodup)
    (h : ∀ g L' h₁ tk cells, s.toks ≤ tk → Fr h₀ L g m → Fr g L' h₁ (bindL (envOfC qual scope L' f cdv).kindOf binds fun _ => none) → News g L' h₁ (cells ++ news) →
      CellsAre (bindC (envOfC qual scope L' f cdv).kindOf binds fun _ => none) (cellsFrom (L' + 1) scope.names []) cells → Below A base (env :: outer) g → K.In g → Top p loose mean mg mb g → (∀ p ∈ news, p.1 < L') →
      wpAny (model prog w) (A.deeper (envOfC qual scope L' f cdv)) (execs body (envOfC qual scope L' f cdv))
        (fun fl s' => LeaveK h₀ L m g R (match fl with | .ret v => v | _ => .none) s')
        (fun e s' => wpAny (model prog w) (A.deeper (envOfC qual scope L' f cdv)) (leaving (envOfC qual scope L' f cdv) e) (fun _ s'' => R (.error e) s'') (fun e' s'' => R (.error e') s'') s')
        { s with heap := h₁, toks := tk })
    (hco : scope.isCoroutine = false) (hgen : scope.isGenerator = false) (hk : scope.kind = .function) : codeAny (model prog w) A (.call (.ref f) args) R s := by
  obtain ⟨FG, BG, st, lv⟩ := groundX (R := R) B F N hA hf hke
  have hlim := T.nolimit
  refine codeAny_call_function hroom ((X₀.keeps F.keep) _ _ ho) rfl hco hgen rfl (codeRec_of (X₀.keeps F.keep) hcd) (hbind _ _ _ _ ?_)
  refine wpAny_with_toks (Nat.le_refl _) ?_
  refine wpAny_newFunctionEnv_cells hk (kindsX hkind _) fun env' he s' x => ?_
  intro hle
  subst he
  refine ⟨(hlim.keeps F.keep).keeps x.toInCall.keep, codeAny_func ?_⟩
  obtain ⟨h₁, tk, rfl, _⟩ := x.done
  have hk₁ := x.toInCall.keep
  obtain ⟨cells, NC, Y⟩ := Cl.news (h₀ := s.heap) (Nat.le_refl _) fun n c hm => ⟨x.cell n c (lookup_of_mem_nodup (cellsFrom_names scope.names 0 (s.heap.objs.size + 1) [] [] rfl ▸ hnd) hm), x.above n c hm⟩
  refine wpAny_mono (h _ s.heap.objs.size h₁ tk cells hle FG ⟨x.toInCall.ns, fun b o e => hk₁ b o (of_hideAll _ e), Nat.le_of_eq (hideAll_size _ _)⟩ (fun p hp => ?_) Y BG (X₀.keeps st) (T.keeps st) (fun p hp => Heap.lt_size (N p hp).1)) (fun fl s' hl => lv _ _ hl) fun _ _ y => y
  rcases List.mem_append.mp hp with hp | hp
  · refine ⟨(NC p hp).1, (NC p hp).2.1, ?_⟩
    cases q : (hideAll s.heap (news.map (·.1))).get? p.1 with
    | none => rfl
    | some o => have := of_hideAll _ q; rw [(NC p hp).2.2] at this; cases this
  · exact ⟨hk₁ _ _ (N p hp).1, Nat.ne_of_lt (Heap.lt_size (N p hp).1), hideAll_none _ (List.mem_map_of_mem hp)⟩
end
section V3
local macro_rules | `(tactic| walk_at "MY ENTERC") => `(tactic| (refine' code_defT ?k1 ?k2 ?k3 ?k4 ?k5 ?kA ?kF ?kK ?k6 ?k7 ?k8 ?k9 ?kB ?kD ?_ ?c2 ?c3 ?c4; (case kA => exact rfl); (case kF => exact rfl); (case kK => assumption); (case k1 => k_asm); (case k2 => k_asm); (case k3 => k_asm); (case k4 => k_asm); (case k5 => k_asm); (case k6 => k_is); (case k7 => k_is); (case k8 => ktr_room); (case k9 => first | exact BindsTo.of_eq rfl | exact binds_K (by k_in) rfl (by k_is) rfl rfl rfl); (case kB => exact rfl); (case kD => decide +kernel); (case c2 => exact rfl); (case c3 => exact rfl); (case c4 => exact rfl); k_whole; intro g' L' h' tk' cells' htk' FG' F' N' Y' B' X' T' l1; (replace l1 := allLt_of l1); (have l2 := allNe_succ l1); k_cells Y'; (try simp only [List.cons_append, List.nil_append] at N'); refine ent_mono ?_; (try k_fold)))
local macro_rules | `(tactic| walk_at "eval DictComp") => `(tactic| (k_here; k_dflt (refine DictComp_J (F₀ := by k_asm) (by with_unfolding_all rfl) (by decide) (by rfl) (by decide) (by rfl) ?_)))
local macro_rules | `(tactic| walk_at "subscriptTail") => `(tactic| (k_here; (with_reducible show wpAny _ _ (subscriptTail _ _ (Value.ref _) (Value.str _ _)) _ _ _); k_dflt (refine kda_item (knd := PySem.strKind _ _) (by k_asm) (by k_mem) (by k_asm) (strKind_is _ _ _ _) (by assumption) ?_)))
local macro_rules | `(tactic| walk_at "subscriptTail Name Name ref str") => `(tactic| (k_here; k_dflt (refine kda_item (knd := PySem.strKind _ _) (by k_asm) (by k_mem) (by k_asm) (strKind_is _ _ _ _) (by assumption) ?_)))
local macro_rules | `(tactic| walk_at "DSrc") => `(tactic| (k_here; refine myStop ?_))
local macro_rules | `(tactic| walk_at "DEnd") => `(tactic| (k_here; refine myStop ?_))
set_option maxRecDepth 100000 in
set_option maxHeartbeats 0 in
theorem law_table_call {w : World} {p : Program} {loose : List Str} {mean : ExcName → Option Value} {mg mb : Str → Option Value} {dp un : Nat} {gd : Option (List Code)} {cn : Str} {cs : Scope} {a : Addr} {ccd : Value} {cl : List (Str × Addr)} {outer : List Env} {A₀ : Around} {base h₀ : Heap} {L : Addr} {m : Str → Option Value} {news : List (Addr × Obj)} {s : Shared} {Q : Value → Shared → Prop} {lo : Addr} {o : List (Nat × Tok)} {n : Nat}
  (ht1 : 1 ≤ s.toks) (hoz : o.length ≤ 100) (hm : (lo, listOf (ordA o) n) ∈ news) (hto : ∀ p ∈ o, 1 ≤ p.2 ∧ p.2 < s.toks) (hoc : ∀ c ∈ ordC o, c = 42 ∨ c = 91 ∨ c = 37 ∨ c = 63 ∨ c = 95) (hon : (ordC o).Nodup)
  (B : Below A₀ base outer h₀) (F : Fr h₀ L s.heap m) (KX : (hd0.heap_1 w.params).In h₀) (N : News h₀ L s.heap news) (T : Top p loose mean mg mb h₀) (hk : cs.kind = .function)
  (hd : dp + 5 < recursionLimit) (hu : un + 40 < cLine)
  (hret : ∀ D l ep h' tk', Fr h₀ L h' m → News h₀ L h' ((D, dO w l ep) :: news) → AllNe D news → (D == sysModules) = false → TabKV (ordC o) l → TokOk l → Q (.ref D) {s with heap := h', toks := tk'}) :
   wpAny (model pw w) (ktrTop dp un gd cn cs L a ccd cl outer) (call (.ref 104) [.ref lo]) Q (fun _ _ => False) s := by
  refine wpAny_call ?_
  k_dflt walk_at "MY ENTERC"
  rename_i g1 L1 h1 tk1 htk1 FG1 F1 B1 X1 T1 l1 l2 oc d1 N1
  replace F1 : Fr g1 L1 h1 (fun y => if y = Str.ofString "order" then some (.ref lo) else none) := F1
  replace d1 : oc.data = .cell none := d1
  k_steps
  (rename Obj.IsDictOf _ _ _ => hdo0)
  (rename Fr _ _ _ _ => F2)
  (rename News _ _ _ _ => N2)
  (rename _ = Data.cell _ => d2)
  obtain ⟨kvs, hdo, hvs⟩ := laid_vals (tk := tk1) (w := w) hdo0
  clear hdo0
  unfold MyStop
  refine ⟨lo, ordA o, n, _, fun i l => TabKV (ordC (o.take i)) l ∧ TokOk l, rfl, rfl, F2, N2, .tail _ (.tail _ hm), fun i l hJ => tabKV_nodup hon hoz hJ.1, ⟨rfl, fun _ h => nomatch h⟩, ?turn, ?fin⟩
  case turn =>
    rintro i v l I oI C oC D ep m2 h3 tk3 E' ⟨hT, hTok⟩ hle3 hv hC hx F3 N3 off ne
    obtain ⟨c, t, hct, rfl⟩ := ordA_get hv
    have hco : (c, t) ∈ o := List.mem_of_getElem? hct
    obtain ⟨tv, hval, htv⟩ := hvs c (hoc c (List.mem_map_of_mem hco))
    have hnew : [c] ∉ l.map KV.k := by
      rw [tabKV_keys hT, ordC_take]
      intro hm'
      obtain ⟨c', hc', e'⟩ := List.mem_map.mp hm'
      have e2 : c' = c := by simpa using e'
      rw [e2] at hc'
      exact nodup_take hon (by unfold ordC; rw [List.getElem?_map, hct]; rfl) hc'
    k_steps
    unfold MyStop
    refine ⟨h3, _, ⟨[c], t, laidV c, tv⟩, rfl, Nat.le_succ _, F3, N3, rfl, rfl, hnew, ?_, ?_⟩
    · unfold TabKV at hT ⊢
      rw [List.map_append, hT, ordC_take, ordC_take, List.take_add_one, List.map_append]
      unfold ordC
      rw [List.getElem?_map, hct]
      rfl
    · intro e he
      rcases List.mem_append.mp he with he | he
      · exact hTok e he
      · rw [List.mem_singleton.mp he]
        have h7 := hto _ hco
        have h8 : @LE.le Nat _ 1 t := h7.1
        have h9 : @LT.lt Nat _ t s.toks := h7.2
        refine ⟨?_, ?_, ?_⟩
        all_goals (show @Ne Nat _ _)
        all_goals (dsimp only; omega)
  case fin =>
    rintro l D h3 tk3 ep ⟨hT, hTok⟩ F3 N3 o1 hLD
    have hsz : (ordA o).size = o.length := by unfold ordA; simp
    rw [hsz, List.take_length] at hT
    have hns := not_sys F3 X1 hLD
    have hD : AllNe D news := off1_ne o1
    k_steps
    rename_i kF kN Tc kX
    refine' hret D l ep _ _ kF ?nn hD hns hT hTok
    case nn =>
      intro p hp
      refine kN p ?_
      rcases List.mem_cons.mp hp with rfl | hp
      · exact .head _
      · exact .tail _ (.tail _ (.tail _ hp))
end V3
theorem rev_K {w : World} {A : Around} {E : Value → Shared → Prop} {s : Shared} {h₀ : Heap} {L l : Addr} {m : Str → Option Value} {news : List (Addr × Obj)} {value slice : PySem.Expr} {o : List (Nat × Tok)} {n : Nat} {vk : Value} {ops : List Value} {Q : Value → Shared → Prop}
    (F : Fr h₀ L s.heap m) (N : News h₀ L s.heap news) (hm : (l, listOf (ordA o) n) ∈ news) (hz : o.length ≤ 100) (pk : PySem.IsPart vk (some (-1)))
    (h : ∀ D h', Fr h₀ L h' m → News h₀ L h' ((D, listOf (ordA o.reverse) 0) :: news) → (∀ p ∈ news, p.1 < D) → Q (.ref D) { s with heap := h' })
    (hs : subscripted slice false (.ref l) (.ref s.heap.objs.size) = operate ops (getItem (.ref l) (.ref s.heap.objs.size))) (ht : ∀ r, letTemporaryGo value (.ref l) r = pure ()) :
    wpAny (model pw w) A (subscriptTail value slice (.ref l) (.ref s.heap.objs.size)) Q E { s with heap := s.heap.push { cls := .type "slice", data := .fields #[.none, .none, vk] } } := by
  have hsz : (ordA o).size = o.length := by unfold ordA; simp
  refine krv_lit (zs := (ordA o.reverse).toList) F N (isList_made N hm) pk (by unfold ordA; simp) (fun D h' F' N' l1 => h D h' F' ?_ l1) hs ht (by rw [hsz]; have := sizeLine_eq; omega)
  rw [Array.toArray_toList] at N'
  exact N'
theorem add_new {w : World} {A : Around} {E : Value → Shared → Prop} {s : Shared} {X Y : Str} {x y : List Nat} {t u : Tok} {Q : Value → Shared → Prop} (hX : X = mkS x) (hY : Y = mkS y) (hx : x ≠ []) (hy : y ≠ []) (hl : x.length + y.length ≤ 1000000)
    (h : Q (.str (mkS (x ++ y)) s.toks) { s with toks := s.toks + 1 }) : wpAny (model pw w) A (binaryOp .Add (.str X t) (.str Y u)) Q E s := by
  subst hX hY
  have e1 : (mkS x).length = x.length := by simp [mkS, Str.length]
  have e2 : (mkS y).length = y.length := by simp [mkS, Str.length]
  refine P.add_str ?_
  have h1 : ((mkS x).length == 0) = false := by rw [e1]; exact beq_eq_false_iff_ne.mpr fun q => hx (List.eq_nil_of_length_eq_zero q)
  have h2 : ((mkS y).length == 0) = false := by rw [e2]; exact beq_eq_false_iff_ne.mpr fun q => hy (List.eq_nil_of_length_eq_zero q)
  rw [h1, h2]
  simp only [Bool.false_eq_true, if_false]
  rw [mkS_append]
  have e3 : (mkS (x ++ y)).length = (x ++ y).length := by simp [mkS, Str.length]
  exact ⟨by rw [e3, List.length_append, sizeLine_eq]; omega, h⟩
noncomputable def TurnKV (cs : List Nat) (l : List KV) : Prop := l.map (fun e => (e.k, e.v)) = cs.map fun c => ([91, c, 93], [c])
theorem turnKV_keys {cs : List Nat} {l : List KV} (h : TurnKV cs l) : l.map KV.k = cs.map fun c => [91, c, 93] := by
  have := congrArg (List.map Prod.fst) h
  rw [List.map_map, List.map_map] at this
  exact this
theorem turnKV_nodup {o : List (Nat × Tok)} {i : Nat} {l : List KV} (hon : (ordC o).Nodup) (hoz : o.length ≤ 100) (h : TurnKV (ordC (o.take i)) l) : (l.map KV.k).Nodup ∧ l.length ≤ 1000 := by
  have hk := turnKV_keys h
  constructor
  · rw [hk, ordC_take]
    refine List.Pairwise.map _ (fun a b hab q => hab (by simpa using q)) (List.Sublist.nodup (List.take_sublist _ _) hon)
  · have := congrArg List.length hk
    rw [List.length_map, List.length_map] at this
    unfold ordC at this
    rw [List.length_map, List.length_take] at this
    omega
theorem ordC_rev (o : List (Nat × Tok)) : ordC o.reverse = (ordC o).reverse := by unfold ordC; rw [List.map_reverse]
theorem off1_one {D : Addr} {a : Addr × Obj} {news : List (Addr × Obj)} (h : LCg.Off1 D (a :: news)) : AllNe D news := by
  have g : ∀ l : List (Addr × Obj), LCg.Off1 D l → AllNe D l := by
    intro l
    induction l with
    | nil => intro _; trivial
    | cons p r ih => intro h; exact ⟨h.1, ih h.2⟩
  exact g _ h.2
section V4
local macro_rules | `(tactic| walk_at "execs cons") => `(tactic| (k_here; (with_reducible refine ex_keep ?_); (try dsimp only)))
local macro_rules | `(tactic| walk_at "Keep") => `(tactic| ((refine keep_go ?_); intro tk htk etk; (try dsimp only at htk etk)))
local macro_rules | `(tactic| walk_at "MY STR") => `(tactic| first | with_reducible rfl | exact (show _ = mkS [91] by decide) | exact (show _ = mkS [93] by decide))
local macro_rules | `(tactic| walk_at "MY LEN") => `(tactic| (simp only [List.length_append, List.length_cons, List.length_nil]; omega))
local macro_rules | `(tactic| walk_at "binaryOp Add str str") => `(tactic| (k_here; (with_reducible show wpAny _ _ (binaryOp Operator.Add (Value.str _ _) (Value.str _ _)) _ _ _); k_dflt (refine' add_new ?k1 ?k2 ?k4 ?k5 ?k3 ?_; (case k1 => walk_at "MY STR"); (case k2 => walk_at "MY STR"); (case k3 => walk_at "MY LEN"); (case k4 => exact fun q => nomatch q); (case k5 => exact fun q => nomatch q); k_whole)))
local macro_rules | `(tactic| walk_at "subscriptTail Name Slice ref ref") => `(tactic| (k_here; (with_reducible show wpAny _ _ (subscriptTail _ (PySem.Expr.Slice none none (some _) _) (Value.ref _) (Value.ref _)) _ _ _); k_dflt (refine' rev_K ?F ?N ?l ?z ?k ?_ ?s ?t; (case F => k_asm); (case N => k_asm); (case l => k_mem); (case z => assumption); (case k => exact PySem.IsPart.int _ _); (case s => with_unfolding_all rfl); (case t => kmk_pure)); intro D' h' F' N' l1; (replace l1 := allNe_mk (allNe_of_lt (allLt_of l1))); (try k_sweep)))
local macro_rules | `(tactic| walk_at "eval DictComp") => `(tactic| (k_here; k_dflt (refine DictComp_J (F₀ := by k_asm) (by with_unfolding_all rfl) (by decide) (by rfl) (by decide) (by rfl) ?_)))
local macro_rules | `(tactic| walk_at "DSrc") => `(tactic| (k_here; refine myStop ?_))
local macro_rules | `(tactic| walk_at "DEnd") => `(tactic| (k_here; refine myStop ?_))
set_option maxRecDepth 100000 in
set_option maxHeartbeats 0 in
theorem law_turned_call {w : World} {p : Program} {loose : List Str} {mean : ExcName → Option Value} {mg mb : Str → Option Value} {dp un : Nat} {gd : Option (List Code)} {cn : Str} {cs : Scope} {a : Addr} {ccd : Value} {cl : List (Str × Addr)} {outer : List Env} {A₀ : Around} {base h₀ : Heap} {L : Addr} {m : Str → Option Value} {news : List (Addr × Obj)} {s : Shared} {Q : Value → Shared → Prop} {lo : Addr} {o : List (Nat × Tok)} {n : Nat}
  (ht1 : 1 ≤ s.toks) (hoz : o.length ≤ 100) (hm : (lo, listOf (ordA o) n) ∈ news) (hto : ∀ p ∈ o, 1 ≤ p.2 ∧ p.2 < s.toks) (hon : (ordC o).Nodup)
  (B : Below A₀ base outer h₀) (F : Fr h₀ L s.heap m) (KX : (hd0.heap_1 w.params).In h₀) (N : News h₀ L s.heap news) (T : Top p loose mean mg mb h₀) (hk : cs.kind = .function)
  (hd : dp + 5 < recursionLimit) (hu : un + 40 < cLine)
  (hret : ∀ D l ep h' tk', Fr h₀ L h' m → News h₀ L h' ((D, dO w l ep) :: news) → AllNe D news → (D == sysModules) = false → TurnKV (ordC o).reverse l → TokOk l → Q (.ref D) {s with heap := h', toks := tk'}) :
   wpAny (model pw w) (ktrTop dp un gd cn cs L a ccd cl outer) (call (.ref 109) [.ref lo]) Q (fun _ _ => False) s := by
  refine wpAny_call ?_
  k_dflt walk_at "MY ENTER"
  rename_i g1 L1 h1 FG1 F1 N1 B1 X1 T1
  k_steps
  (rename Fr _ _ _ _ => F2)
  (rename News _ _ _ _ => N2)
  unfold MyStop
  refine ⟨_, ordA o.reverse, 0, _, fun i l => TurnKV (ordC (o.reverse.take i)) l ∧ TokOk l, rfl, rfl, F2, N2, .head _, fun i l hJ => turnKV_nodup (by rw [ordC_rev]; exact (List.reverse_perm _).nodup_iff.mpr hon) (by rw [List.length_reverse]; exact hoz) hJ.1, ⟨rfl, fun _ h => nomatch h⟩, ?turn, ?fin⟩
  case turn =>
    rintro i v l I oI C oC D ep m2 h3 tk3 E' ⟨hT, hTok⟩ hle3 hv hC hx F3 N3 off ne
    obtain ⟨c, t, hct, rfl⟩ := ordA_get hv
    have hco : (c, t) ∈ o := List.mem_reverse.mp (List.mem_of_getElem? hct)
    have hnew : [91, c, 93] ∉ l.map KV.k := by
      rw [turnKV_keys hT, ordC_take]
      intro hm'
      obtain ⟨c', hc', e'⟩ := List.mem_map.mp hm'
      have e2 : c' = c := by simpa using e'
      rw [e2] at hc'
      exact nodup_take (by rw [ordC_rev]; exact (List.reverse_perm _).nodup_iff.mpr hon) (by unfold ordC; rw [List.getElem?_map, hct]; rfl) hc'
    k_steps
    unfold MyStop
    have hle4 : s.toks ≤ tk3 := by
      have h9 := hle3
      dsimp only at h9
      omega
    refine ⟨h3, _, ⟨[91, c, 93], _, [c], t⟩, rfl, ?_, F3, N3, rfl, rfl, hnew, ?_, ?_⟩
    · dsimp only; omega
    · unfold TurnKV at hT ⊢
      rw [List.map_append, hT, ordC_take, ordC_take, List.take_add_one, List.map_append]
      unfold ordC
      rw [List.getElem?_map, hct]
      rfl
    · intro e he
      rcases List.mem_append.mp he with he | he
      · exact hTok e he
      · rw [List.mem_singleton.mp he]
        have h7 := hto _ hco
        have h8 : @LE.le Nat _ 1 t := h7.1
        have h9 : @LT.lt Nat _ t s.toks := h7.2
        refine ⟨?_, ?_, ?_⟩
        all_goals (show @Ne Nat _ _)
        all_goals (dsimp only; omega)
  case fin =>
    rintro l D h3 tk3 ep ⟨hT, hTok⟩ F3 N3 o1 hLD
    have hsz : (ordA o.reverse).size = o.reverse.length := by unfold ordA; simp
    rw [hsz, List.take_length, ordC_rev] at hT
    have hns := not_sys F3 X1 hLD
    have hD : AllNe D news := off1_one o1
    k_steps
    rename_i kF kN Tc kX
    refine' hret D l ep _ _ kF ?nn hD hns hT hTok
    case nn =>
      intro p hp
      refine kN p ?_
      rcases List.mem_cons.mp hp with rfl | hp
      · exact .head _
      · exact .tail _ (.tail _ hp)
end V4
/- str.replace as a scan -/
noncomputable def rpk (p v : List Nat) : Nat → List Nat → List Nat
  | _, [] => []
  | k + 1, _ :: r => rpk p v k r
  | 0, c :: r => if (c :: r).take p.length = p then v ++ rpk p v (p.length - 1) r else c :: rpk p v 0 r
noncomputable def occL (p : List Nat) : Nat → Nat → List Nat → List Nat
  | _, _, [] => []
  | i, k + 1, _ :: r => occL p (i + 1) k r
  | i, 0, c :: r => if (c :: r).take p.length = p then i :: occL p (i + 1) (p.length - 1) r else occL p (i + 1) 0 r
theorem occ_scan {x y : Str} {lim : Nat} {p : List Nat} (hy : y.cps.toList = p) (hp : p ≠ []) : ∀ (B A : List Nat) (st : Array Nat × Nat), x.cps.toList = A ++ B → st.fst.size + B.length < lim →
    (forIn (List.range' A.length (B.length + 1)) st (StrLaws.occBody x y x.length lim)).run.fst.toList = st.fst.toList ++ occL p A.length (st.snd - A.length) B
  | [], A, st, hx, hl => by
    have hyl : y.length = p.length := by rw [← hy]; simp [Str.length]
    have hxl : x.length = A.length := by rw [show x.length = x.cps.toList.length by simp [Str.length], hx]; simp
    have hpp : 0 < p.length := List.length_pos_iff.mpr hp
    have hn : ¬ (((st.fst.size < lim ∧ st.snd ≤ A.length) ∧ A.length + y.length ≤ x.length) ∧ Builtin.Str.subAt x y A.length = true) := fun h => by omega
    rw [show List.range' A.length ([] : List Nat).length.succ = [A.length] from rfl, List.forIn_cons]
    simp only [StrLaws.occBody, if_neg hn]
    simp [occL]
  | c :: r, A, st, hx, hl => by
    have hyl : y.length = p.length := by rw [← hy]; simp [Str.length]
    have hxl : x.length = A.length + (r.length + 1) := by rw [show x.length = x.cps.toList.length by simp [Str.length], hx]; simp
    have hpp : 0 < p.length := List.length_pos_iff.mpr hp
    have hsub : Builtin.Str.subAt x y A.length = decide ((c :: r).take p.length = p) := by
      rw [StrLaws.subAt_eq, hx, List.drop_left, hyl, hy]
      by_cases h : (c :: r).take p.length = p
      · rw [h]; simp
      · rw [decide_eq_false h]; exact beq_eq_false_iff_ne.mpr h
    have hle : (c :: r).take p.length = p → A.length + y.length ≤ x.length := fun h => by
      have := congrArg List.length h
      rw [List.length_take, List.length_cons] at this
      omega
    have hx' : x.cps.toList = (A ++ [c]) ++ r := by rw [hx]; simp
    have hA : (A ++ [c]).length = A.length + 1 := by simp
    rw [List.length_cons] at hl
    rw [List.length_cons, show List.range' A.length (r.length + 1 + 1) = A.length :: List.range' (A.length + 1) (r.length + 1) from List.range'_succ .., List.forIn_cons]
    by_cases hc : ((st.fst.size < lim ∧ st.snd ≤ A.length) ∧ A.length + y.length ≤ x.length) ∧ Builtin.Str.subAt x y A.length = true
    · have hpre : (c :: r).take p.length = p := by rw [hsub] at hc; exact of_decide_eq_true hc.2
      have ih := occ_scan hy hp r (A ++ [c]) (st.fst.push A.length, A.length + y.length) hx' (by show (st.fst.push A.length).size + r.length < lim; rw [Array.size_push]; omega)
      rw [hA] at ih
      simp only [StrLaws.occBody, if_pos hc] at ih ⊢
      rw [show st.snd - A.length = 0 by omega, occL, if_pos hpre]
      refine ih.trans ?_
      rw [Array.toList_push, List.append_assoc, hyl]
      rw [show A.length + p.length - (A.length + 1) = p.length - 1 by omega]
      rfl
    · have ih := occ_scan hy hp r (A ++ [c]) (st.fst, st.snd) hx' (by show st.fst.size + r.length < lim; omega)
      rw [hA] at ih
      simp only [StrLaws.occBody, if_neg hc] at ih ⊢
      refine ih.trans ?_
      congr 1
      by_cases hk : st.snd ≤ A.length
      · have hpre : ¬ (c :: r).take p.length = p := fun h => hc ⟨⟨⟨by omega, hk⟩, hle h⟩, by rw [hsub]; exact decide_eq_true h⟩
        rw [show st.snd - A.length = 0 by omega, show st.snd - (A.length + 1) = 0 by omega, occL, if_neg hpre]
      · rw [show st.snd - A.length = (st.snd - (A.length + 1)) + 1 by omega, occL]
noncomputable def gl (X z : List Nat) (w : Nat) : Nat → List Nat → List Nat
  | a, [] => X.drop a
  | a, c :: r => (X.drop a).take (c - a) ++ z ++ gl X z w (c + w) r
theorem gl_scan {p : List Nat} (X z : List Nat) (hp : p ≠ []) : ∀ (B A : List Nat) (k a : Nat), X = A ++ B → (k = 0 ∧ a ≤ A.length ∨ a = A.length + k) →
    gl X z p.length a (occL p A.length k B) = (X.drop a).take (A.length - a) ++ rpk p z k B
  | [], A, k, a, hx, h => by
    rw [occL, gl, rpk, List.append_nil, hx, List.append_nil]
    refine (List.take_of_length_le ?_).symm
    rw [List.length_drop]; omega
  | c :: r, A, k + 1, a, hx, h => by
    have hA : (A ++ [c]).length = A.length + 1 := by simp
    have ih := gl_scan X z hp r (A ++ [c]) k a (by rw [hx, List.append_assoc]; rfl) (.inr (by omega))
    rw [hA] at ih
    rw [occL, rpk, ih, show A.length + 1 - a = 0 by omega, show A.length - a = 0 by omega]
  | c :: r, A, 0, a, hx, h => by
    have hA : (A ++ [c]).length = A.length + 1 := by simp
    have hpp : 0 < p.length := List.length_pos_iff.mpr hp
    rw [occL, rpk]
    by_cases hpre : (c :: r).take p.length = p
    · have ih := gl_scan X z hp r (A ++ [c]) (p.length - 1) (A.length + p.length) (by rw [hx, List.append_assoc]; rfl) (.inr (by omega))
      rw [hA] at ih
      rw [if_pos hpre, if_pos hpre, gl, ih, show A.length + 1 - (A.length + p.length) = 0 by omega, List.take_zero, List.nil_append, List.append_assoc]
    · have ih := gl_scan X z hp r (A ++ [c]) 0 a (by rw [hx, List.append_assoc]; rfl) (.inl ⟨rfl, by omega⟩)
      rw [hA] at ih
      rw [if_neg hpre, if_neg hpre, ih]
      have hal : a ≤ A.length := by omega
      have e : (X.drop a).take (A.length + 1 - a) = (X.drop a).take (A.length - a) ++ [c] := by
        rw [hx, List.drop_append_of_le_length hal]
        have hl : (A.drop a).length = A.length - a := List.length_drop
        rw [show A.length + 1 - a = (A.drop a).length + 1 by omega, List.take_append, List.take_of_length_le (by omega), ← hl]
        simp
      rw [e, List.append_assoc]
      rfl
theorem parts_gl (x y z : Str) : ∀ (cuts : List Nat) (a : Nat), (Str.join z (StrLaws.partsFrom x y.length a cuts)).cps.toList = gl x.cps.toList z.cps.toList y.length a cuts
  | [], a => by
    show (Builtin.Str.strSub x a x.length).cps.toList = _
    rw [StrLaws.strSub_toList, gl]
    exact List.take_of_length_le (by simp [Str.length])
  | c :: r, a => by
    obtain ⟨p, q, e⟩ := StrLaws.partsFrom_ne x y.length (c + y.length) r
    have ih := parts_gl x y z r (c + y.length)
    show (Str.join z (Builtin.Str.strSub x a c :: StrLaws.partsFrom x y.length (c + y.length) r)).cps.toList = _
    rw [e] at ih ⊢
    show (Builtin.Str.strSub x a c ++ z ++ Str.join z (p :: q)).cps.toList = _
    simp only [Str.cps_append, Array.toList_append]
    rw [ih, StrLaws.strSub_toList, gl]
theorem repl_rpk (x p v : List Nat) (hp : p ≠ []) : repl x p v = rpk p v 0 x := by
  unfold repl
  have hx : (mkS x).cps.toList = x := by simp [mkS]
  have hy : (mkS p).cps.toList = p := by simp [mkS]
  have hyl : (mkS p).length = p.length := by simp [mkS, Str.length]
  have hxl : (mkS x).length = x.length := by simp [mkS, Str.length]
  have hpp : 0 < p.length := List.length_pos_iff.mpr hp
  have ho : Builtin.Str.occurrences (mkS x) (mkS p) 0 (mkS x).length ((mkS x).length + 1) = occL p 0 0 x := by
    rw [StrLaws.occ_eq]
    have h := occ_scan (x := mkS x) (lim := (mkS x).length + 1) hy hp x [] (#[], 0) (by rw [hx]; rfl) (by rw [hxl]; simp)
    rw [hxl] at h ⊢
    exact h
  have hg := gl_scan x v hp x [] 0 0 rfl (.inl ⟨rfl, Nat.zero_le _⟩)
  simp only [List.length_nil, Nat.sub_zero, List.take_zero, List.nil_append] at hg
  unfold Txt.replace
  rw [ho]
  have h0 : ((mkS p).length == 0) = false := by rw [hyl]; exact beq_eq_false_iff_ne.mpr (by omega)
  rw [h0, Bool.false_and, Bool.or_false]
  cases hc : occL p 0 0 x with
  | nil =>
    rw [hc] at hg
    simp only [List.isEmpty_nil, if_true]
    rw [hx, ← hg]; rfl
  | cons i r =>
    simp only [List.isEmpty_cons, Bool.false_eq_true, if_false]
    rw [StrLaws.glued_eq_join, StrLaws.partsBetween_eq, parts_gl, hx, hyl, ← hc]
    have hv : (mkS v).cps.toList = v := by simp [mkS]
    rw [hv]
    exact hg

/- the plain law -/
noncomputable def sub1 (c : Nat) (v : List Nat) (k : Nat) : List Nat := if k = c then v else [k]
theorem rpk_one (c : Nat) (v : List Nat) : ∀ s, rpk [c] v 0 s = s.flatMap (sub1 c v)
  | [] => rfl
  | k :: r => by
    rw [rpk, List.flatMap_cons, ← rpk_one c v r]
    unfold sub1
    by_cases h : k = c
    · rw [if_pos (by rw [h]; rfl), if_pos h]; rfl
    · have hn : ¬ (k :: r).take [c].length = [c] := fun e => h (List.cons.inj (show k :: r.take 0 = c :: [] from e)).1
      rw [if_neg hn, if_neg h]; rfl
theorem repl_one (s : List Nat) (c : Nat) (v : List Nat) : repl s [c] v = s.flatMap (sub1 c v) := (repl_rpk s [c] v (by simp)).trans (rpk_one c v s)
noncomputable def tabR (cs s : List Nat) : List Nat := cs.foldl (fun s c => s.flatMap (sub1 c (laidV c))) s
theorem replAll_tab : ∀ {cs : List Nat} {l : List KV} (s : List Nat), TabKV cs l → replAll s l = tabR cs s
  | [], [], s, _ => rfl
  | [], e :: l, s, h => by cases h
  | c :: cs, [], s, h => by cases h
  | c :: cs, e :: l, s, h => by
    unfold TabKV at h
    rw [List.map_cons, List.map_cons, List.cons.injEq] at h
    obtain ⟨h1, h2⟩ := h
    have hk : e.k = [c] := congrArg Prod.fst h1
    have hv : e.v = laidV c := congrArg Prod.snd h1
    show replAll (repl s e.k e.v) l = tabR cs (s.flatMap (sub1 c (laidV c)))
    rw [hk, hv, repl_one, replAll_tab _ h2]
theorem fm_single (s : List Nat) : (s.flatMap fun k => [k]) = s := by
  induction s with
  | nil => rfl
  | cons k r ih => rw [List.flatMap_cons, ih]; rfl
theorem tabR_hom : ∀ (cs s : List Nat), tabR cs s = s.flatMap fun k => tabR cs [k]
  | [], s => (fm_single s).symm
  | c :: cs, s => by
    show tabR cs (s.flatMap (sub1 c (laidV c))) = _
    rw [tabR_hom cs, List.flatMap_assoc]
    congr 1
    funext k
    show _ = tabR cs ([k].flatMap (sub1 c (laidV c)))
    rw [tabR_hom cs ([k].flatMap _)]
    simp
theorem tabR_fm (cs : List Nat) (x : List Nat) (f : Nat → List Nat) : tabR cs (x.flatMap f) = x.flatMap fun c => tabR cs (f c) := by
  rw [tabR_hom, List.flatMap_assoc]
  congr 1
  funext k
  exact (tabR_hom cs (f k)).symm
noncomputable def ampE : List Nat := [38, 97, 109, 112, 59]
noncomputable def gtE : List Nat := [38, 103, 116, 59]
noncomputable def ltE : List Nat := [38, 108, 116, 59]
noncomputable def htmC (k : Nat) : List Nat := if k = 38 then ampE else if k = 62 then gtE else if k = 60 then ltE else [k]
theorem htm1_eq (x : List Nat) : htm1 x = x.flatMap (sub1 38 ampE) := by
  unfold htm1
  rw [show cod "&" = [38] by decide, show cod "&amp;" = ampE by decide, repl_one]
theorem htm2_eq (x : List Nat) : htm2 x = x.flatMap fun k => (sub1 38 ampE k).flatMap (sub1 62 gtE) := by
  unfold htm2
  rw [show cod ">" = [62] by decide, show cod "&gt;" = gtE by decide, repl_one, htm1_eq, List.flatMap_assoc]
theorem htm_eq (x : List Nat) : htm x = x.flatMap htmC := by
  unfold htm
  rw [show cod "<" = [60] by decide, show cod "&lt;" = ltE by decide, repl_one, htm2_eq, List.flatMap_assoc]
  congr 1
  funext k
  unfold htmC
  by_cases h1 : k = 38
  · subst h1; decide
  · rw [if_neg h1]
    unfold sub1
    rw [if_neg h1]
    by_cases h2 : k = 62
    · subst h2; decide
    · rw [if_neg h2]
      by_cases h3 : k = 60
      · subst h3; decide
      · simp [h2, h3]
theorem fm_le {f : Nat → List Nat} {n : Nat} (h : ∀ k, (f k).length ≤ n) : ∀ s : List Nat, (s.flatMap f).length ≤ n * s.length
  | [] => Nat.le_refl _
  | k :: r => by
    have h1 := fm_le h r
    have h2 := h k
    rw [List.flatMap_cons, List.length_append, List.length_cons, Nat.mul_succ]
    omega
theorem fm_le' {f : Nat → List Nat} {n : Nat} : ∀ s : List Nat, (∀ k ∈ s, (f k).length ≤ n) → (s.flatMap f).length ≤ n * s.length
  | [], _ => Nat.le_refl _
  | k :: r, h => by
    have h1 := fm_le' r fun k hk => h k (.tail _ hk)
    have h2 := h k (.head _)
    rw [List.flatMap_cons, List.length_append, List.length_cons, Nat.mul_succ]
    omega
theorem sub1_le {c : Nat} {v : List Nat} {n : Nat} (h : v.length ≤ n) (h1 : 1 ≤ n) (k : Nat) : (sub1 c v k).length ≤ n := by
  unfold sub1
  split
  · exact h
  · exact h1
theorem htmC_le (k : Nat) : (htmC k).length ≤ 5 := by
  unfold htmC
  split
  · decide
  · split
    · decide
    · split
      · decide
      · exact (by decide : 1 ≤ 5)
theorem laidV_le (c : Nat) : (laidV c).length ≤ 3 := by
  unfold laidV
  split
  · decide
  · split
    · decide
    · exact Nat.le_refl _
theorem laidV_ne (c : Nat) : [c] ≠ laidV c := by
  unfold laidV
  split
  · rename_i h; subst h; decide
  · split
    · rename_i h; subst h; decide
    · intro h; simp at h
theorem pow3 (a n : Nat) (h : a * 3 ^ (n + 1) ≤ 1048576) : a ≤ 1048576 ∧ (3 * a) * 3 ^ n ≤ 1048576 := by
  have h1 : 1 ≤ 3 ^ (n + 1) := Nat.one_le_pow _ _ (by decide)
  have h2 : a * 1 ≤ a * 3 ^ (n + 1) := Nat.mul_le_mul_left _ h1
  have h3 : (3 * a) * 3 ^ n = a * 3 ^ (n + 1) := by rw [Nat.pow_succ, Nat.mul_comm 3 a, Nat.mul_assoc, Nat.mul_comm 3]
  omega
theorem rok_tab : ∀ {cs : List Nat} {l : List KV} (s : List Nat), TabKV cs l → TokOk l → s.length * 3 ^ cs.length ≤ 1048576 → ROk s l
  | _, [], _, _, _, _ => trivial
  | [], e :: l, s, h, _, _ => by cases h
  | c :: cs, e :: l, s, h, hK, hb => by
    unfold TabKV at h
    rw [List.map_cons, List.map_cons, List.cons.injEq] at h
    obtain ⟨h1, h2⟩ := h
    have hk : e.k = [c] := congrArg Prod.fst h1
    have hv : e.v = laidV c := congrArg Prod.snd h1
    obtain ⟨t1, t2, t3⟩ := hK e (.head _)
    obtain ⟨b1, b2⟩ := pow3 s.length cs.length hb
    have hv3 := laidV_le c
    refine ⟨⟨b1, by rw [hv]; omega, t1, t2, t3, by rw [hk, hv]; exact laidV_ne c⟩, rok_tab _ h2 (fun e he => hK e (.tail _ he)) ?_⟩
    have h4 : (repl s e.k e.v).length ≤ 3 * s.length := by
      rw [hk, hv, repl_one]
      exact fm_le (sub1_le hv3 (by decide)) s
    exact Nat.le_trans (Nat.mul_le_mul_right _ h4) b2
/- blocks -/
theorem rpk_skip {a : Nat} {p v : List Nat} : ∀ (b r : List Nat), a ∉ b → rpk (a :: p) v 0 (b ++ r) = b ++ rpk (a :: p) v 0 r
  | [], _, _ => rfl
  | k :: b, r, h => by
    have hk : k ≠ a := fun e => h (e ▸ .head _)
    have ih := rpk_skip (p := p) (v := v) b r fun hm => h (.tail _ hm)
    show rpk (a :: p) v 0 (k :: (b ++ r)) = _
    have hn : ¬ (k :: (b ++ r)).take (a :: p).length = a :: p := fun e => hk (List.cons.inj (show k :: (b ++ r).take p.length = a :: p from e)).1
    rw [rpk, if_neg hn, ih]
    rfl
theorem rpk_drop {p v : List Nat} : ∀ (s r : List Nat) (k : Nat), s.length = k → rpk p v k (s ++ r) = rpk p v 0 r
  | [], _, _, rfl => rfl
  | c :: s, r, _, rfl => by
    show rpk p v (s.length + 1) (c :: (s ++ r)) = _
    rw [rpk]
    exact rpk_drop s r _ rfl
theorem rpk_hit {a : Nat} {p v : List Nat} (r : List Nat) : rpk (a :: p) v 0 (a :: p ++ r) = v ++ rpk (a :: p) v 0 r := by
  show rpk (a :: p) v 0 (a :: (p ++ r)) = _
  rw [rpk, if_pos (by simp), List.length_cons, Nat.add_sub_cancel, rpk_drop p r _ rfl]
theorem rpk_miss {a e d : Nat} {p v t : List Nat} (r : List Nat) (h : d ≠ e) (ha : a ∉ d :: t) : rpk (a :: e :: p) v 0 (a :: d :: t ++ r) = a :: d :: t ++ rpk (a :: e :: p) v 0 r := by
  show rpk (a :: e :: p) v 0 (a :: (d :: t ++ r)) = _
  have hn : ¬ (a :: (d :: t ++ r)).take (a :: e :: p).length = a :: e :: p := fun q => h (List.cons.inj (List.cons.inj (show a :: d :: (t ++ r).take p.length = a :: e :: p from q)).2).1
  rw [rpk, if_neg hn, rpk_skip (d :: t) r ha]
  rfl
noncomputable def blk (a e : Nat) (p b : List Nat) : Bool := b == a :: e :: p || !b.contains a || (match b with
  | a' :: d :: t => a' == a && d != e && !(d :: t).contains a
  | _ => false)
theorem rpk_blk {a e : Nat} {p v : List Nat} {b : List Nat} (h : blk a e p b = true) (r : List Nat) : rpk (a :: e :: p) v 0 (b ++ r) = (if b = a :: e :: p then v else b) ++ rpk (a :: e :: p) v 0 r := by
  by_cases h1 : b = a :: e :: p
  · rw [if_pos h1, h1]; exact rpk_hit r
  · rw [if_neg h1]
    unfold blk at h
    rw [show (b == a :: e :: p) = false from beq_eq_false_iff_ne.mpr h1, Bool.false_or, Bool.or_eq_true] at h
    rcases h with h | h
    · exact rpk_skip b r (by simpa using h)
    · match b, h with
      | a' :: d :: t, h =>
        simp only [Bool.and_eq_true, beq_iff_eq, bne_iff_ne, ne_eq, Bool.not_eq_true'] at h
        obtain ⟨⟨rfl, h2⟩, h3⟩ := h
        exact rpk_miss r h2 (by simpa using h3)
theorem rpk_blocks {a e : Nat} {p v : List Nat} (f : Nat → List Nat) : ∀ x : List Nat, (∀ c ∈ x, blk a e p (f c) = true) → rpk (a :: e :: p) v 0 (x.flatMap f) = x.flatMap fun c => if f c = a :: e :: p then v else f c
  | [], _ => rfl
  | c :: x, h => by
    rw [List.flatMap_cons, List.flatMap_cons, rpk_blk (h c (.head _)), rpk_blocks f x fun c hc => h c (.tail _ hc)]
noncomputable def U1 (b : List Nat) : List Nat := if b = ltE then [60] else b
noncomputable def U2 (b : List Nat) : List Nat := if b = gtE then [62] else b
noncomputable def U3 (b : List Nat) : List Nat := if b = ampE then [38] else b
theorem unh1_fm (f : Nat → List Nat) (x : List Nat) (h : ∀ c ∈ x, blk 38 108 [116, 59] (f c) = true) : unh1 (x.flatMap f) = x.flatMap fun c => U1 (f c) := by
  unfold unh1
  rw [show cod "&lt;" = [38, 108, 116, 59] by decide, show cod "<" = [60] by decide, repl_rpk _ _ _ (by simp), rpk_blocks f x h]
  rfl
theorem unh2_fm (f : Nat → List Nat) (x : List Nat) (h : ∀ c ∈ x, blk 38 108 [116, 59] (f c) = true) (h' : ∀ c ∈ x, blk 38 103 [116, 59] (U1 (f c)) = true) : unh2 (x.flatMap f) = x.flatMap fun c => U2 (U1 (f c)) := by
  unfold unh2
  rw [unh1_fm f x h, show cod "&gt;" = [38, 103, 116, 59] by decide, show cod ">" = [62] by decide, repl_rpk _ _ _ (by simp), rpk_blocks _ x h']
  rfl
theorem unh3_fm (f : Nat → List Nat) (x : List Nat) (h : ∀ c ∈ x, blk 38 97 [109, 112, 59] (f c) = true) : unh3 (x.flatMap f) = x.flatMap fun c => U3 (f c) := by
  unfold unh3
  rw [show cod "&amp;" = [38, 97, 109, 112, 59] by decide, show cod "&" = [38] by decide, repl_rpk _ _ _ (by simp), rpk_blocks f x h]
  rfl
/- undoing -/
theorem undo_head (c : Nat) (v : List Nat) (hv : v = [91, c, 93]) (k : Nat) (h : k ≠ c) (r : List Nat) : ((k :: r.flatMap (sub1 c v)).take [91, c, 93].length = [91, c, 93]) → False := by
  intro e
  have e1 : k = 91 := (List.cons.inj e).1
  have e2 := (List.cons.inj e).2
  cases r with
  | nil => cases e2
  | cons j r =>
    rw [List.flatMap_cons] at e2
    unfold sub1 at e2
    by_cases hj : j = c
    · rw [if_pos hj, hv] at e2
      have e3 : 91 = c := (List.cons.inj e2).1
      exact h (e1.trans e3)
    · rw [if_neg hj] at e2
      exact hj (List.cons.inj e2).1
theorem undo_one (c : Nat) : ∀ s : List Nat, rpk [91, c, 93] [c] 0 (s.flatMap (sub1 c [91, c, 93])) = s
  | [] => rfl
  | k :: r => by
    have ih := undo_one c r
    rw [List.flatMap_cons]
    by_cases h : k = c
    · rw [show sub1 c [91, c, 93] k = [91, c, 93] from if_pos h]
      rw [rpk_hit, ih, h]; rfl
    · rw [show sub1 c [91, c, 93] k = [k] from if_neg h]
      show rpk [91, c, 93] [c] 0 (k :: r.flatMap (sub1 c [91, c, 93])) = _
      rw [rpk, if_neg (undo_head c _ rfl k h r), ih]
theorem undo (c : Nat) (s : List Nat) : repl (s.flatMap (sub1 c [91, c, 93])) [91, c, 93] [c] = s := (repl_rpk _ _ _ (by simp)).trans (undo_one c s)
theorem replAll_snoc (s : List Nat) (l : List KV) (e : KV) : replAll s (l ++ [e]) = repl (replAll s l) e.k e.v := by
  unfold replAll
  rw [List.foldl_append]; rfl
theorem rok_snoc : ∀ (l : List KV) (s : List Nat) (e : KV), ROk s l → ROk (replAll s l) [e] → ROk s (l ++ [e])
  | [], _, _, _, h => h
  | d :: l, s, e, h, h' => ⟨h.1, rok_snoc l _ e h.2 h'⟩
theorem turn_snoc {c : Nat} {cs : List Nat} {r : List KV} (h : TurnKV (c :: cs).reverse r) : ∃ r' e, r = r' ++ [e] ∧ TurnKV cs.reverse r' ∧ e.k = [91, c, 93] ∧ e.v = [c] := by
  unfold TurnKV at h
  rw [List.reverse_cons, List.map_append] at h
  rcases List.eq_nil_or_concat r with rfl | ⟨r', e, rfl⟩
  · simp at h
  · rw [List.concat_eq_append, List.map_append] at h
    have h1 := List.append_inj' h rfl
    have h2 : (e.k, e.v) = ([91, c, 93], [c]) := (List.cons.inj h1.2).1
    exact ⟨r', e, List.concat_eq_append .., h1.1, congrArg Prod.fst h2, congrArg Prod.snd h2⟩
theorem undo_all : ∀ {cs : List Nat} {r : List KV} (s : List Nat), TurnKV cs.reverse r → (∀ c ∈ cs, laidV c = [91, c, 93]) → replAll (tabR cs s) r = s
  | [], r, s, h, _ => by
    have : r = [] := by cases r with
      | nil => rfl
      | cons _ _ => cases h
    subst this; rfl
  | c :: cs, r, s, h, hl => by
    obtain ⟨r', e, rfl, h1, h2, h3⟩ := turn_snoc h
    rw [replAll_snoc]
    show repl (replAll (tabR cs (s.flatMap (sub1 c (laidV c)))) r') e.k e.v = s
    rw [undo_all _ h1 (fun c hc => hl c (.tail _ hc)), h2, h3, hl c (.head _)]
    exact undo c s
theorem rok_turn : ∀ {cs : List Nat} {r : List KV} (s : List Nat), TurnKV cs.reverse r → TokOk r → (∀ c ∈ cs, laidV c = [91, c, 93]) → s.length * 3 ^ cs.length ≤ 1048576 → ROk (tabR cs s) r
  | [], r, s, h, _, _, _ => by
    have : r = [] := by cases r with
      | nil => rfl
      | cons _ _ => cases h
    subst this; trivial
  | c :: cs, r, s, h, hK, hl, hb => by
    obtain ⟨r', e, rfl, h1, h2, h3⟩ := turn_snoc h
    obtain ⟨b1, b2⟩ := pow3 s.length cs.length hb
    have h4 : (s.flatMap (sub1 c (laidV c))).length ≤ 3 * s.length := fm_le (sub1_le (laidV_le c) (by decide)) s
    have hl' : ∀ c ∈ cs, laidV c = [91, c, 93] := fun c hc => hl c (.tail _ hc)
    show ROk (tabR cs (s.flatMap (sub1 c (laidV c)))) (r' ++ [e])
    refine rok_snoc _ _ _ (rok_turn _ h1 (fun e he => hK e (List.mem_append_left _ he)) hl' (Nat.le_trans (Nat.mul_le_mul_right _ h4) b2)) ?_
    rw [undo_all _ h1 hl']
    obtain ⟨t1, t2, t3⟩ := hK e (List.mem_append_right _ (.head _))
    have h5 : 1 ≤ 3 ^ cs.length := Nat.one_le_pow _ _ (by decide)
    have h6 : (3 * s.length) * 1 ≤ (3 * s.length) * 3 ^ cs.length := Nat.mul_le_mul_left _ h5
    exact ⟨⟨by omega, by rw [h3]; exact (by decide : 1 ≤ 14), t1, t2, t3, by rw [h2, h3]; intro q; simp at q⟩, trivial⟩
local macro_rules | `(tactic| walk_at "PAD") => `(tactic| fail)
/- items letter by letter -/
noncomputable def exp1 : PPart → List (Option Nat)
  | none => [none]
  | some l => l.map some
noncomputable def toP : Option Nat → PPart
  | none => none
  | some k => some [k]
noncomputable def expd (is : List PPart) : List PPart := (is.flatMap exp1).map toP
theorem expd_append (a b : List PPart) : expd (a ++ b) = expd a ++ expd b := by
  unfold expd; rw [List.flatMap_append, List.map_append]
theorem runs_many (X : List PPart) : ∀ l : List Nat, ∃ A b, runs X = A ++ [b] ∧ runs (X ++ (l.map some).map toP) = A ++ [b ++ l] := by
  intro l
  rcases List.eq_nil_or_concat l with rfl | ⟨r, k, rfl⟩
  · obtain ⟨A, b, h, _⟩ := runs_some X []
    exact ⟨A, b, h, by simpa using h⟩
  · rw [List.concat_eq_append]
    obtain ⟨A, b, h1, h2⟩ := runs_many X r
    obtain ⟨A', b', h3, h4⟩ := runs_some (X ++ (r.map some).map toP) [k]
    refine ⟨A, b, h1, ?_⟩
    rw [h2] at h3
    have h5 := List.append_inj' h3 rfl
    have h6 : b ++ r = b' := (List.cons.inj h5.2).1
    rw [List.map_append, List.map_append, ← List.append_assoc]
    show runs (X ++ (r.map some).map toP ++ [some [k]]) = _
    rw [h4, ← h5.1, ← h6, List.append_assoc]
termination_by l => l.length
decreasing_by simp_all
noncomputable def NonE (is : List PPart) : Prop := ∀ l, some l ∈ is → l ≠ []
theorem expd_last {is : List PPart} (h : NonE is) : is.getLast? = some none ↔ (expd is).getLast? = some none := by
  rcases List.eq_nil_or_concat is with rfl | ⟨r, i, rfl⟩
  · exact Iff.rfl
  · rw [List.concat_eq_append] at h ⊢
    rw [expd_append]
    cases i with
    | none => simp [expd, exp1, toP]
    | some l =>
      have hl : l ≠ [] := h l (by simp)
      rcases List.eq_nil_or_concat l with rfl | ⟨q, k, rfl⟩
      · exact absurd rfl hl
      · rw [List.concat_eq_append]
        have e : expd [some (q ++ [k])] = expd [some q] ++ [some [k]] := by simp [expd, exp1, toP]
        rw [e, ← List.append_assoc]
        simp
theorem runs_expd : ∀ (n : Nat) (is : List PPart), is.length = n → NonE is → runs is = runs (expd is)
  | 0, is, hn, _ => by rw [List.eq_nil_of_length_eq_zero hn]; rfl
  | n + 1, is, hn, h => by
    rcases List.eq_nil_or_concat is with rfl | ⟨r, i, rfl⟩
    · cases hn
    · rw [List.concat_eq_append] at h hn ⊢
      have hr : NonE r := fun l hl => h l (List.mem_append_left _ hl)
      have ih := runs_expd n r (by simpa using hn) hr
      rw [expd_append]
      cases i with
      | none =>
        show _ = runs (expd r ++ [none])
        by_cases hl : r.getLast? = some none
        · rw [runs_dup hl, runs_dup ((expd_last hr).mp hl), ih]
        · rw [runs_new hl, runs_new (fun q => hl ((expd_last hr).mpr q)), ih]
      | some l =>
        obtain ⟨A, b, h1, h2⟩ := runs_some r l
        obtain ⟨A', b', h3, h4⟩ := runs_many (expd r) l
        have e : expd [some l] = (l.map some).map toP := by simp [expd, exp1]
        rw [e, h2, h4]
        rw [ih, h3] at h1
        have h5 := List.append_inj' h1 rfl
        rw [h5.1, (List.cons.inj h5.2).1]
theorem rend_expd {a b : List PPart} (ha : NonE a) (hb : NonE b) (h : a.flatMap exp1 = b.flatMap exp1) : rend a = rend b := by
  have e : runs a = runs b := by rw [runs_expd _ a rfl ha, runs_expd _ b rfl hb]; unfold expd; rw [h]
  unfold rend
  rw [e]
/- one sign at a time, by evaluation -/
noncomputable def parse : List Nat → List PTok
  | [] => []
  | [c] => if c = 42 then [.star] else if c = 63 then [.q] else [.lit c]
  | [c, d] => if c = 42 then .star :: parse [d] else if c = 63 then .q :: parse [d] else .lit c :: parse [d]
  | c :: d :: e :: r => if c = 42 then .star :: parse (d :: e :: r) else if c = 63 then .q :: parse (d :: e :: r) else if c = 91 then .br d :: parse r else .lit c :: parse (d :: e :: r)
noncomputable def okT : PTok → Bool
  | .lit c => litS.contains c
  | .star => true
  | .q => true
  | .br c => c == 91 || c == 42 || c == 63
noncomputable def okE (is : List PPart) : Bool := is.all fun i => match i with
  | none => true
  | some l => !l.isEmpty
noncomputable def same (b : List Nat) (row : List PPart) : Bool :=
  let ts := parse b
  let is := ts.map tokItem
  codesOf ts == b && ts.all okT && Nat.ble ts.length 20 && okE is && okE row && is.flatMap exp1 == row.flatMap exp1
noncomputable def chk (b : List Nat) (rt rf : List PPart) : Bool :=
  let b1 := U1 b
  let b2 := U2 b1
  Nat.ble b.length 60 && Nat.ble b1.length 60 && Nat.ble b2.length 60 && same b rt && blk 38 108 [116, 59] b && blk 38 103 [116, 59] b1 && blk 38 97 [109, 112, 59] b2 && same (U3 b2) rf
theorem okT_ok {t : PTok} (h : okT t = true) : t.Ok := by
  cases t with
  | lit c => exact List.contains_iff_mem.mp h
  | star => trivial
  | q => trivial
  | br c => show c = 91 ∨ c = 42 ∨ c = 63; simpa [okT, or_assoc] using h
theorem okE_non {is : List PPart} (h : okE is = true) : NonE is := fun l hl e => by
  subst e
  have := List.all_eq_true.mp h _ hl
  cases this
structure Same (b : List Nat) (row : List PPart) : Prop where
  codes : codesOf (parse b) = b
  ok : ∀ t ∈ parse b, t.Ok
  len : (parse b).length ≤ 20
  e1 : NonE ((parse b).map tokItem)
  e2 : NonE row
  eq : ((parse b).map tokItem).flatMap exp1 = row.flatMap exp1
theorem same_of {b : List Nat} {row : List PPart} (h : same b row = true) : Same b row := by
  unfold same at h
  simp only [Bool.and_eq_true, beq_iff_eq, Nat.ble_eq] at h
  obtain ⟨⟨⟨⟨⟨h1, h2⟩, h3⟩, h4⟩, h5⟩, h6⟩ := h
  exact ⟨h1, fun t ht => okT_ok (List.all_eq_true.mp h2 t ht), h3, okE_non h4, okE_non h5, h6⟩
theorem codesOf_fm (x : List Nat) (f : Nat → List PTok) : codesOf (x.flatMap f) = x.flatMap fun c => codesOf (f c) := by
  induction x with
  | nil => rfl
  | cons c r ih =>
    rw [List.flatMap_cons, List.flatMap_cons, ← ih]
    unfold codesOf
    exact List.flatMap_append
theorem fm_leT {f : Nat → List PTok} {n : Nat} : ∀ s : List Nat, (∀ k ∈ s, (f k).length ≤ n) → (s.flatMap f).length ≤ n * s.length
  | [], _ => Nat.le_refl _
  | k :: r, h => by
    have h1 := fm_leT r fun k hk => h k (.tail _ hk)
    have h2 := h k (.head _)
    rw [List.flatMap_cons, List.length_append, List.length_cons, Nat.mul_succ]
    omega
theorem toks_of {x : List Nat} {f : Nat → List Nat} {row : Nat → List PPart} (hxl : x.length ≤ 13) (h : ∀ c ∈ x, Same (f c) (row c)) :
    ∃ ts, x.flatMap f = codesOf ts ∧ (∀ t ∈ ts, t.Ok) ∧ ts.length ≤ 1000 ∧ rend (ts.map tokItem) = rend (x.flatMap row) := by
  refine ⟨x.flatMap fun c => parse (f c), ?_, ?_, ?_, ?_⟩
  · rw [codesOf_fm]
    clear hxl
    induction x with
    | nil => rfl
    | cons c r ih => rw [List.flatMap_cons, List.flatMap_cons, (h c (.head _)).codes, ih fun c hc => h c (.tail _ hc)]
  · intro t ht
    obtain ⟨c, hc, ht⟩ := List.mem_flatMap.mp ht
    exact (h c hc).ok t ht
  · have := fm_leT (f := fun c => parse (f c)) x fun c hc => (h c hc).len
    omega
  · refine rend_expd ?_ ?_ ?_
    · intro l hl
      obtain ⟨t, ht, e⟩ := List.mem_map.mp hl
      obtain ⟨c, hc, ht⟩ := List.mem_flatMap.mp ht
      exact (h c hc).e1 l (List.mem_map.mpr ⟨t, ht, e⟩)
    · intro l hl
      obtain ⟨c, hc, hl⟩ := List.mem_flatMap.mp hl
      exact (h c hc).e2 l hl
    · clear hxl
      induction x with
      | nil => rfl
      | cons c r ih =>
        rw [List.flatMap_cons, List.map_append, List.flatMap_append, List.flatMap_cons, List.flatMap_append, (h c (.head _)).eq, ih fun c hc => h c (.tail _ hc)]
/- all orders of the five -/
noncomputable def five : List Nat := [42, 91, 37, 63, 95]
noncomputable def ordAll (P : List Nat → Bool) : Bool := five.all fun a => five.all fun b => b == a || five.all fun c => c == a || c == b || five.all fun d => d == a || d == b || d == c || five.all fun e => e == a || e == b || e == c || e == d || P [a, b, c, d, e]
theorem ordAll_of {P : List Nat → Bool} (h : ordAll P = true) {cs : List Nat} (hp : cs.Perm five) : P cs = true := by
  have hl := hp.length_eq
  have hn : cs.Nodup := hp.nodup_iff.mpr (by decide)
  have hm : ∀ c ∈ cs, c ∈ five := fun c hc => hp.mem_iff.mp hc
  match cs, hl, hn, hm with
  | [a, b, c, d, e], _, hn, hm =>
    simp only [List.nodup_cons, List.mem_cons, List.not_mem_nil, or_false, not_or] at hn
    obtain ⟨⟨n1, n2, n3, n4⟩, ⟨n5, n6, n7⟩, ⟨n8, n9⟩, n10, _⟩ := hn
    unfold ordAll at h
    have h1 := List.all_eq_true.mp h a (hm a (by simp))
    have h2 := List.all_eq_true.mp h1 b (hm b (by simp))
    rw [show (b == a) = false from beq_eq_false_iff_ne.mpr (Ne.symm n1), Bool.false_or] at h2
    have h3 := List.all_eq_true.mp h2 c (hm c (by simp))
    rw [show (c == a) = false from beq_eq_false_iff_ne.mpr (Ne.symm n2), show (c == b) = false from beq_eq_false_iff_ne.mpr (Ne.symm n5), Bool.false_or, Bool.false_or] at h3
    have h4 := List.all_eq_true.mp h3 d (hm d (by simp))
    rw [show (d == a) = false from beq_eq_false_iff_ne.mpr (Ne.symm n3), show (d == b) = false from beq_eq_false_iff_ne.mpr (Ne.symm n6), show (d == c) = false from beq_eq_false_iff_ne.mpr (Ne.symm n8), Bool.false_or, Bool.false_or, Bool.false_or] at h4
    have h5 := List.all_eq_true.mp h4 e (hm e (by simp))
    rw [show (e == a) = false from beq_eq_false_iff_ne.mpr (Ne.symm n4), show (e == b) = false from beq_eq_false_iff_ne.mpr (Ne.symm n7), show (e == c) = false from beq_eq_false_iff_ne.mpr (Ne.symm n9), show (e == d) = false from beq_eq_false_iff_ne.mpr (Ne.symm n10), Bool.false_or, Bool.false_or, Bool.false_or, Bool.false_or] at h5
    exact h5
noncomputable def chkA (cs : List Nat) : Bool := five.all fun c => chk (tabR cs [c]) (rowOf c cs true) (rowOf c cs false)
theorem chkA_all : ordAll chkA = true := by decide +kernel
noncomputable def rest : List Nat := [38, 60, 62, 93, 33, 45, 94, 92, 97, 46, 126, 35, 32, 10, 59]
noncomputable def chkB : Bool := rest.all fun c => chk (htmC c) [some (rowT c true)] [some (rowT c false)] && (htmC c).all fun k => !five.contains k
theorem chkB_all : chkB = true := by decide +kernel
theorem tabR_free : ∀ (cs b : List Nat), (∀ c ∈ cs, c ∉ b) → tabR cs b = b
  | [], _, _ => rfl
  | c :: cs, b, h => by
    have e : b.flatMap (sub1 c (laidV c)) = b := by
      have hc := h c (.head _)
      clear h
      induction b with
      | nil => rfl
      | cons k r ih =>
        rw [List.flatMap_cons, ih fun hm => hc (.tail _ hm)]
        unfold sub1
        have hkc : ¬ k = c := fun e => hc (by rw [e]; exact .head _)
        rw [if_neg hkc]; rfl
    show tabR cs (b.flatMap (sub1 c (laidV c))) = b
    rw [e]
    exact tabR_free cs b fun c hc => h c (.tail _ hc)
theorem alph_cases {c : Nat} (h : c ∈ alph) : c ∈ five ∨ c ∈ rest := by
  revert c
  decide
structure Chk (b : List Nat) (rt rf : List PPart) : Prop where
  l0 : b.length ≤ 60
  l1 : (U1 b).length ≤ 60
  l2 : (U2 (U1 b)).length ≤ 60
  s0 : Same b rt
  k1 : blk 38 108 [116, 59] b = true
  k2 : blk 38 103 [116, 59] (U1 b) = true
  k3 : blk 38 97 [109, 112, 59] (U2 (U1 b)) = true
  s3 : Same (U3 (U2 (U1 b))) rf
theorem chk_of {b : List Nat} {rt rf : List PPart} (h : chk b rt rf = true) : Chk b rt rf := by
  unfold chk at h
  simp only [Bool.and_eq_true, Nat.ble_eq] at h
  obtain ⟨⟨⟨⟨⟨⟨⟨h1, h2⟩, h3⟩, h4⟩, h5⟩, h6⟩, h7⟩, h8⟩ := h
  exact ⟨h1, h2, h3, same_of h4, h5, h6, h7, same_of h8⟩
theorem five_htm {c : Nat} (h : c ∈ five) : htmC c = [c] := by
  revert c; decide
theorem chk_sign {cs : List Nat} (hp : cs.Perm five) {c : Nat} (hc : c ∈ alph) : Chk (tabR cs (htmC c)) (rowOf c cs true) (rowOf c cs false) := by
  rcases alph_cases hc with h | h
  · rw [five_htm h]
    exact chk_of (List.all_eq_true.mp (ordAll_of chkA_all hp) c h)
  · have h1 := List.all_eq_true.mp chkB_all c h
    rw [Bool.and_eq_true] at h1
    obtain ⟨h2, h3⟩ := h1
    have e : tabR cs (htmC c) = htmC c := tabR_free _ _ fun k hk hm => by
      have h4 := List.all_eq_true.mp h3 k hm
      rw [List.contains_iff_mem.mpr (hp.mem_iff.mp hk)] at h4
      cases h4
    have n1 : ¬ (c = 37 ∨ c = 95) := fun q => by rcases q with rfl | rfl <;> exact absurd h (by decide)
    have n2 : ¬ (c = 42 ∨ c = 63) := fun q => by rcases q with rfl | rfl <;> exact absurd h (by decide)
    rw [e, rowOf_T n1 n2, rowOf_T n1 n2]
    exact chk_of h2
theorem plain_rok {x cs : List Nat} (hx : ∀ c ∈ x, c ∈ alph) (hxl : x.length ≤ 13) (hl : cs.length ≤ 5) {l : List KV} (hT : TabKV cs l) (hK : TokOk l) : ROk (htm x) l := by
  refine rok_tab _ hT hK ?_
  have h1 : (htm x).length ≤ 65 := by
    rw [htm_eq]
    have := fm_le htmC_le x
    omega
  have h2 : 3 ^ cs.length ≤ 3 ^ 5 := Nat.pow_le_pow_right (by decide) hl
  have h3 := Nat.mul_le_mul h1 h2
  exact Nat.le_trans h3 (by decide)
theorem plain_law {x cs : List Nat} (hx : ∀ c ∈ x, c ∈ alph) (hxl : x.length ≤ 13) (hp : cs.Perm [42, 91, 37, 63, 95]) {l : List KV} (hT : TabKV cs l) (hK : TokOk l) :
    ROk (htm x) l ∧ (htm1 x).length ≤ 1048576 ∧ (htm2 x).length ≤ 1048576 ∧
    (∃ ts, replAll (htm x) l = codesOf ts ∧ (∀ t ∈ ts, t.Ok) ∧ ts.length ≤ 1000 ∧ rend (ts.map tokItem) = rend (x.flatMap fun c => rowOf c cs true)) ∧
    ((replAll (htm x) l).length ≤ 1048576 ∧ (unh1 (replAll (htm x) l)).length ≤ 1048576 ∧ (unh2 (replAll (htm x) l)).length ≤ 1048576) ∧
    (∃ ts, unh3 (unh2 (replAll (htm x) l)) = codesOf ts ∧ (∀ t ∈ ts, t.Ok) ∧ ts.length ≤ 1000 ∧ rend (ts.map tokItem) = rend (x.flatMap fun c => rowOf c cs false)) := by
  have hc : ∀ c ∈ x, Chk (tabR cs (htmC c)) (rowOf c cs true) (rowOf c cs false) := fun c h => chk_sign hp (hx c h)
  have hW : replAll (htm x) l = x.flatMap fun c => tabR cs (htmC c) := by rw [replAll_tab _ hT, htm_eq, tabR_fm]
  have h1 := unh1_fm (fun c => tabR cs (htmC c)) x fun c h => (hc c h).k1
  have h2 := unh2_fm (fun c => tabR cs (htmC c)) x (fun c h => (hc c h).k1) fun c h => (hc c h).k2
  refine ⟨plain_rok hx hxl (by rw [hp.length_eq]; decide) hT hK, ?_, ?_, ?_, ⟨?_, ?_, ?_⟩, ?_⟩
  · rw [htm1_eq]
    have := fm_le (sub1_le (c := 38) (v := ampE) (n := 5) (by decide) (by decide)) x
    omega
  · rw [htm2_eq]
    have h3 : ∀ k, ((sub1 38 ampE k).flatMap (sub1 62 gtE)).length ≤ 25 := fun k => by
      have a := fm_le (sub1_le (c := 62) (v := gtE) (n := 5) (by decide) (by decide)) (sub1 38 ampE k)
      have b := sub1_le (c := 38) (v := ampE) (n := 5) (by decide) (by decide) k
      omega
    have := fm_le h3 x
    omega
  · rw [hW]; exact toks_of hxl fun c h => (hc c h).s0
  · rw [hW]
    have := fm_le' x fun c h => (hc c h).l0
    omega
  · rw [hW, h1]
    have := fm_le' x fun c h => (hc c h).l1
    omega
  · rw [hW, h2]
    have := fm_le' x fun c h => (hc c h).l2
    omega
  · rw [hW, h2, unh3_fm _ x fun c h => (hc c h).k3]
    exact toks_of hxl fun c h => (hc c h).s3
/- there and back -/
noncomputable def ampC (k : Nat) : List Nat := if k = 38 then ampE else [k]
noncomputable def threeL : List Nat := [42, 91, 63]
noncomputable def ordAll3 (P : List Nat → Bool) : Bool := threeL.all fun a => threeL.all fun b => b == a || threeL.all fun c => c == a || c == b || P [a, b, c]
theorem ordAll3_of {P : List Nat → Bool} (h : ordAll3 P = true) {cs : List Nat} (hp : cs.Perm threeL) : P cs = true := by
  have hl := hp.length_eq
  have hn : cs.Nodup := hp.nodup_iff.mpr (by decide)
  have hm : ∀ c ∈ cs, c ∈ threeL := fun c hc => hp.mem_iff.mp hc
  match cs, hl, hn, hm with
  | [a, b, c], _, hn, hm =>
    simp only [List.nodup_cons, List.mem_cons, List.not_mem_nil, or_false, not_or] at hn
    obtain ⟨⟨n1, n2⟩, n5, _⟩ := hn
    unfold ordAll3 at h
    have h1 := List.all_eq_true.mp h a (hm a (by simp))
    have h2 := List.all_eq_true.mp h1 b (hm b (by simp))
    rw [show (b == a) = false from beq_eq_false_iff_ne.mpr (Ne.symm n1), Bool.false_or] at h2
    have h3 := List.all_eq_true.mp h2 c (hm c (by simp))
    rw [show (c == a) = false from beq_eq_false_iff_ne.mpr (Ne.symm n2), show (c == b) = false from beq_eq_false_iff_ne.mpr (Ne.symm n5), Bool.false_or, Bool.false_or] at h3
    exact h3
noncomputable def chkC (cs : List Nat) : Bool := alph.all fun c =>
  let b := tabR cs (htmC c)
  Nat.ble b.length 60 && Nat.ble (U1 b).length 60 && blk 38 108 [116, 59] b && blk 38 103 [116, 59] (U1 b) && U2 (U1 b) == tabR cs (ampC c)
theorem chkC_all : ordAll3 chkC = true := by decide +kernel
theorem plain_back {x cs : List Nat} (hx : ∀ c ∈ x, c ∈ alph) (hxl : x.length ≤ 13) (hp : cs.Perm [42, 91, 63]) {l r : List KV} (hT : TabKV cs l) (hK : TokOk l) (hT' : TurnKV cs.reverse r) (hK' : TokOk r) :
    ROk (unh2 (replAll (htm x) l)) r ∧ (replAll (htm x) l).length ≤ 1048576 ∧ (unh1 (replAll (htm x) l)).length ≤ 1048576 ∧ (replAll (unh2 (replAll (htm x) l)) r).length ≤ 1048576 ∧
    unh3 (replAll (unh2 (replAll (htm x) l)) r) = x := by
  have hc : ∀ c ∈ x, ((tabR cs (htmC c)).length ≤ 60 ∧ (U1 (tabR cs (htmC c))).length ≤ 60) ∧ (blk 38 108 [116, 59] (tabR cs (htmC c)) = true ∧ blk 38 103 [116, 59] (U1 (tabR cs (htmC c))) = true) ∧ U2 (U1 (tabR cs (htmC c))) = tabR cs (ampC c) := fun c h => by
    have h1 := List.all_eq_true.mp (ordAll3_of chkC_all hp) c (hx c h)
    simp only [Bool.and_eq_true, beq_iff_eq, Nat.ble_eq] at h1
    obtain ⟨⟨⟨⟨a1, a2⟩, a3⟩, a4⟩, a5⟩ := h1
    exact ⟨⟨a1, a2⟩, ⟨a3, a4⟩, a5⟩
  have hlv : ∀ c ∈ cs, laidV c = [91, c, 93] := fun c h => by
    have h1 := hp.mem_iff.mp h
    revert c
    intro c _ h1
    simp only [List.mem_cons, List.not_mem_nil, or_false] at h1
    rcases h1 with rfl | rfl | rfl <;> rfl
  have hW : replAll (htm x) l = x.flatMap fun c => tabR cs (htmC c) := by rw [replAll_tab _ hT, htm_eq, tabR_fm]
  have h1 := unh1_fm (fun c => tabR cs (htmC c)) x fun c h => (hc c h).2.1.1
  have h2 := unh2_fm (fun c => tabR cs (htmC c)) x (fun c h => (hc c h).2.1.1) fun c h => (hc c h).2.1.2
  have h3 : (x.flatMap fun c => U2 (U1 (tabR cs (htmC c)))) = tabR cs (x.flatMap ampC) := by
    rw [tabR_fm]
    clear h1 h2 hW hxl
    induction x with
    | nil => rfl
    | cons c y ih => rw [List.flatMap_cons, List.flatMap_cons, (hc c (.head _)).2.2, ih (fun c h => hx c (.tail _ h)) fun c h => hc c (.tail _ h)]
  have ha : ∀ k, (ampC k).length ≤ 5 := fun k => by
    unfold ampC
    split
    · decide
    · exact (by decide : 1 ≤ 5)
  have hal : (x.flatMap ampC).length ≤ 65 := by have := fm_le ha x; omega
  rw [hW, h1, h2, h3, undo_all _ hT' hlv]
  have hcl : cs.length = 3 := hp.length_eq
  refine ⟨rok_turn _ hT' hK' hlv (by rw [hcl]; omega), ?_, ?_, by omega, ?_⟩
  · have := fm_le' x fun c h => (hc c h).1.1
    omega
  · have := fm_le' x fun c h => (hc c h).1.2
    omega
  · rw [unh3_fm ampC x fun c _ => ?_]
    · have e : ∀ k, U3 (ampC k) = [k] := fun k => by
        unfold ampC U3
        by_cases h : k = 38
        · rw [if_pos h, if_pos rfl, h]
        · rw [if_neg h, if_neg (fun q => by simp [ampE] at q)]
      simp only [e]
      exact fm_single x
    · unfold ampC
      by_cases h : c = 38
      · rw [if_pos h]; decide
      · rw [if_neg h]
        unfold blk
        have : ([c].contains 38) = false := by simp; exact fun q => h q.symm
        rw [this]; simp
local macro_rules | `(tactic| walk_at "PAD") => `(tactic| fail)
theorem ints_at {ns : List Int} : ∀ {vs : List Value} {i : Nat} {v : Value}, IntsAre vs ns → vs.toArray[i]? = some v → ∃ k t, v = .int k t := by
  intro vs i v h e
  have hm : v ∈ vs := List.mem_of_getElem? (by simpa using e)
  clear e
  induction h with
  | nil => cases hm
  | cons k t h ih =>
    rcases List.mem_cons.mp hm with rfl | hm
    · exact ⟨_, _, rfl⟩
    · exact ih hm
theorem alph_at (k : Int) : ∃ c, c ∈ alph ∧ At (Str.ofString "%_[*?&<>]!-^\\a.~# \n;") (k.fmod 20) c := by
  have h1 := Int.fmod_nonneg_of_pos k (show (0 : Int) < 20 by decide)
  have h2 := Int.fmod_lt_of_pos k (show (0 : Int) < 20 by decide)
  generalize k.fmod 20 = j at h1 h2
  have e : (Str.ofString "%_[*?&<>]!-^\\a.~# \n;").cps = alph.toArray := by decide
  obtain ⟨n, rfl⟩ := Int.eq_ofNat_of_zero_le h1
  have hn : n < 20 := by omega
  have hl : alph.length = 20 := rfl
  refine ⟨alph[n]'(by rw [hl]; exact hn), List.getElem_mem _, h1, by omega, ?_⟩
  rw [e]
  simp [hl, hn]
theorem add_to {w : World} {A : Around} {E : Value → Shared → Prop} {s : Shared} {X Y : Str} {x y r : List Nat} {t u : Tok} {Q : Value → Shared → Prop} (hX : X = mkS x) (hY : Y = mkS y) (hl : x.length + y.length ≤ 1000000) (hr : x ++ y = r)
    (h : ∀ t' k, Q (.str (mkS r) t') { s with toks := k }) : wpAny (model pw w) A (binaryOp .Add (.str X t) (.str Y u)) Q E s := by
  subst hr
  exact add_mk hX hY hl h
theorem eq_same {w : World} {A : Around} {E : Value → Shared → Prop} {s : Shared} {X Y : Str} {t u : Tok} {Q : Value → Shared → Prop} (h : X = Y) (hq : Q (.bool true) s) : wpAny (model pw w) A (compareOp .Eq (.str X t) (.str Y u)) Q E s := by
  subst h
  refine P.eq_str ?_
  rw [show (X.cps.toList == X.cps.toList) = true by simp]
  exact hq
theorem ne_same {w : World} {A : Around} {E : Value → Shared → Prop} {s : Shared} {X Y : Str} {t u : Tok} {Q : Value → Shared → Prop} (h : X = Y) (hq : Q (.bool false) s) : wpAny (model pw w) A (compareOp .NotEq (.str X t) (.str Y u)) Q E s := by
  subst h
  refine P.ne_str ?_
  rw [show (X.cps.toList != X.cps.toList) = false by simp]
  exact hq
noncomputable def three (c : Nat) : Bool := c == 42 || c == 91 || c == 63
theorem comp_restT {prog : Program} {w : World} {A : Around} {h₀ : Heap} {L : Addr} {m : Str → Option Value} {env : Env} {ct elt : PySem.Expr} {x : Str} {scope : Scope} {cl : List (Str × Addr)} {s : Shared} {S : List (Addr × Obj) → Prop} {P : Nat → Value → Prop} {Fin : List Value → List (Addr × Obj) → Prop} {n : Nat}
    (J : Nat → List Value → Prop) (news : List (Addr × Obj))
    (turn : ∀ i v ys I oI C oC D m₂ h tk (E' : Value → Shared → Prop), i < n → J i ys → P i v → LCg.NsObj oC m₂ → m₂ x = some v → Fr h₀ L h m → News h₀ L h ((I, oI) :: (C, oC) :: (D, LCg.lst ys) :: news) → LCg.Off3 I C D news → ((@Ne Nat I C) ∧ (@Ne Nat I D) ∧ (@Ne Nat C D)) →
      wpAny (model prog w) A (isTrue ct (compEnvC scope cl C env) (eval ct (compEnvC scope cl C env))) (fun ok s' => if ok = true then
        wpAny (model prog w) A (eval elt (compEnvC scope cl C env)) (LCg.CompEnd h₀ L m { s with heap := h, toks := tk } I oI C oC D (LCg.lst ys) S (fun y news' => news' = news ∧ J (i + 1) (ys ++ [y]))) E' s'
        else LCg.CompEnd h₀ L m { s with heap := h, toks := tk } I oI C oC D (LCg.lst ys) S (fun _ news' => news' = news ∧ J (i + 1) ys) Value.none s') E' { s with heap := h, toks := tk })
    (fin : ∀ ys, J n ys → Fin ys news) : ∀ k i ys, i + k = n → J i ys → LCt.CompRestT prog w A h₀ L m env ct elt x scope cl s S P Fin k i ys news
  | 0, i, ys, e, hJ => LCt.CompRestT.zero (fin ys (by have : i = n := by omega
                                                      rw [← this]; exact hJ))
  | k + 1, i, ys, e, hJ => by
    refine LCt.CompRestT.succ fun v I oI C oC D m₂ h tk E' hv hC hx F N off ne => ?_
    refine wpAny_mono (turn i v ys I oI C oC D m₂ h tk E' (by omega) hJ hv hC hx F N off ne) (fun ok s₂ h₂ => ?_) fun _ _ e => e
    cases ok with
    | true =>
      rw [if_pos rfl] at h₂ ⊢
      refine wpAny_mono h₂ (fun y s₃ h₃ => ?_) fun _ _ e => e
      obtain ⟨h', tk', news', rfl, F', N', off', hS, rfl, hJ'⟩ := h₃
      exact ⟨h', tk', _, rfl, F', N', off', hS, comp_restT J _ turn fin k (i + 1) (ys ++ [y]) (by omega) hJ'⟩
    | false =>
      rw [if_neg Bool.false_ne_true] at h₂ ⊢
      obtain ⟨h', tk', news', rfl, F', N', off', hS, rfl, hJ'⟩ := h₂
      exact ⟨h', tk', _, rfl, F', N', off', hS, comp_restT J _ turn fin k (i + 1) ys (by omega) hJ'⟩
theorem translate_call2 {w : World} {p : Program} {loose : List Str} {mean : ExcName → Option Value} {mg mb : Str → Option Value} {dp un : Nat} {gd : Option (List Code)} {cn : Str} {cs : Scope} {a : Addr} {ccd : Value} {cl : List (Str × Addr)} {outer : List Env} {A₀ : Around} {base h₀ : Heap} {L : Addr} {m : Str → Option Value} {news : List (Addr × Obj)} {g : Obj → List (Addr × Obj)} {s : Shared} {Q : Value → Shared → Prop} {W : List Nat} {toks : List PTok} {tkp : Tok} {ps0 : Array Value}
  (hW : W = codesOf toks) (hok : ∀ t ∈ toks, t.Ok) (hlen : toks.length ≤ 1000) (U : UpdF 82 (tabObj ps0) news g) (hg : TabGood ps0)
  (B : Below A₀ base outer h₀) (F : Fr h₀ L s.heap m) (KX : (hd0.heap_1 w.params).In h₀) (N : News h₀ L s.heap news) (T : Top p loose mean mg mb h₀) (hk : cs.kind = .function)
  (hd : dp + 20 < recursionLimit) (hu : un + 160 < cLine)
  (hret : ∀ ps t h' tk', Fr h₀ L h' m → News h₀ L h' (g (tabObj ps)) → TabGood ps → Q (.str (mkS (rend (toks.map tokItem))) t) {s with heap := h', toks := tk'}) :
   wpAny (model pw w) (ktrTop dp un gd cn cs L a ccd cl outer) (call (.ref 68) [.str (mkS W) tkp]) Q (fun _ _ => False) s := by
  subst hW
  exact translate_call hok hlen U hg B F KX N T hk hd hu hret
section V5
local macro_rules | `(tactic| walk_at "exec Assign cons ListComp") => `(tactic| (k_here; k_dflt (refine LCt.Assign_ListComp_T (F₀ := by k_asm) (by rfl) (by with_unfolding_all rfl) (by with_unfolding_all rfl) (by decide) (by rfl) (by decide) (by rfl) (by rfl) (by rfl) ?_)))
local macro_rules | `(tactic| walk_at "CompSrcT") => `(tactic| (k_here; refine myStop ?_))

local macro_rules | `(tactic| walk_at "compareOp Eq str str") => `(tactic| (k_here; (with_reducible show wpAny _ _ (compareOp _ (Value.str _ _) (Value.str _ _)) _ _ _); k_dflt (refine' eq_same ?k1 ?_; (case k1 => with_reducible assumption); k_whole)))
local macro_rules | `(tactic| walk_at "compareOp NotEq str str") => `(tactic| (k_here; (with_reducible show wpAny _ _ (compareOp _ (Value.str _ _) (Value.str _ _)) _ _ _); k_dflt (refine' ne_same ?k1 ?_; (case k1 => with_reducible assumption); k_whole)))

local macro_rules | `(tactic| walk_at "call ref") => `(tactic| (k_here; refine myStop ?_))
local macro_rules | `(tactic| walk_at "execs cons") => `(tactic| (k_here; (with_reducible refine ex_keep ?_); (try dsimp only)))
local macro_rules | `(tactic| walk_at "Keep") => `(tactic| ((refine keep_go ?_); intro tk htk etk; (try dsimp only at htk etk)))
local macro_rules | `(tactic| walk_at "subscriptTail Name Slice ref ref") => `(tactic| (k_here; (with_reducible show wpAny _ _ (subscriptTail _ (PySem.Expr.Slice none (some _) none _) (Value.ref _) (Value.ref _)) _ _ _); k_dflt (refine' slice8 ?F ?N ?l ?z ?p ?q ?_ ?s ?t; (case F => k_asm); (case N => k_asm); (case l => assumption); (case z => assumption); (case p => kmk_part); (case q => kmk_part); (case s => with_unfolding_all rfl); (case t => kmk_pure)); intro D' h' F' N' l1; (replace l1 := allNe_mk (allNe_of_lt (allLt_of l1))); (try k_sweep)))
local macro_rules | `(tactic| walk_at "eval ListComp") => `(tactic| (k_here; k_dflt (refine LCg.ListComp_U (F₀ := by k_asm) (by with_unfolding_all rfl) (by decide) (by rfl) (by decide) (by rfl) ?_)))
local macro_rules | `(tactic| walk_at "MY STR") => `(tactic| first | with_reducible rfl | exact (show _ = mkS [37, 42, 60, 95, 91] by decide))
local macro_rules | `(tactic| walk_at "MY LEN") => `(tactic| (simp only [List.length_append, List.length_cons, List.length_nil]; omega))
local macro_rules | `(tactic| walk_at "binaryOp Add str str") => `(tactic| (k_here; (with_reducible show wpAny _ _ (binaryOp Operator.Add (Value.str _ _) (Value.str _ _)) _ _ _); k_dflt (refine' add_to ?k1 ?k2 ?k3 ?k4 ?_; (case k1 => walk_at "MY STR"); (case k2 => walk_at "MY STR"); (case k3 => walk_at "MY LEN"); (case k4 => assumption); k_whole); intro t' k'))
local macro_rules | `(tactic| walk_at "subscriptTail Constant BinOp str int") => `(tactic| (k_here; (with_reducible show wpAny _ _ (subscriptTail _ _ (Value.str _ _) (Value.int _ _)) _ _ _); k_dflt (refine' item_at ?k1 ?_; (case k1 => assumption); k_whole)))
local macro_rules | `(tactic| walk_at "CompSrc") => `(tactic| (k_here; refine myStop ?_))
local macro_rules | `(tactic| walk_at "CompEnd") => `(tactic| (k_here; refine myStop ?_))
set_option maxRecDepth 100000 in
set_option maxHeartbeats 0 in
theorem my_law : PySem.Challenge.rw_ij0033_01.Holds := hd (by
  k_go0
  rw [show PySem.Challenge.rw_ij0033_01.row.prog = pw from rfl]
  k_steps
  unfold MyStop
  (rename IntsAre _ _ => hi8)
  (rename Fr _ _ _ _ => F2)
  (rename News _ _ _ _ => N2)
  have hz8 := hi8.length
  rw [List.length_take] at hz8
  refine LCg.CompSrc.ledger (by rfl) F2 N2 (.head _) (by rw [List.size_toArray, hz8]; have := sizeLine_eq; omega) ?_
  intro gg
  refine comp_rest (fun i ys => ∃ cs : List Nat, (∀ c ∈ cs, c ∈ alph) ∧ cs.length = i ∧ StrsOf ys.toArray (cs.map fun c => [c])) _ ?t1 ?f1 _ 0 [] (Nat.zero_add _) ⟨[], nofun, rfl, .nil⟩
  case t1 =>
    rintro i v ys I3 oI C3 oC D3 m3 h12 tk12 E3 hi2 ⟨cs, hcs, hcl, hys⟩ hv hC hx3 F8 N8 off ne
    obtain ⟨k, tq, rfl⟩ := ints_at hi8 hv
    obtain ⟨c, hca, hat⟩ := alph_at k
    k_steps
    unfold MyStop
    refine' LCg.CompEnd.intro F8 N8 _ ?sub off ?hS ?rr
    case sub => exact fun p hp => hp
    case hS => exact Or.inr ⟨_, .head _, rfl, _, rfl⟩
    case rr =>
    refine ⟨rfl, cs ++ [c], ?_, by rw [List.length_append, hcl]; rfl, ?_⟩
    · intro c' hc'
      rcases List.mem_append.mp hc' with h | h
      · exact hcs c' h
      · rw [List.mem_singleton.mp h]; exact hca
    · rw [hat.item, List.map_append]
      have := StrsOf.push (tk := ?_) (x := Str.mk #[c]) hys (show Str.mk #[c] = mkS [c] from rfl)
      simpa using this
  case f1 =>
    rintro ys ⟨cs, hcs, hcl, hys⟩
    unfold LCg.FinE
    intro D2 h13 tk13 F9 N9 o9
    have N10 : News _ _ h13 ((D2, listOf ys.toArray ys.length) :: _) := N9
    clear N9
    have hfl : (cs.map fun c => [c]).flatten = cs := by
      clear hcs hcl hys
      induction cs with
      | nil => rfl
      | cons c r ih => rw [List.map_cons, List.flatten_cons, ih]; rfl
    have hcl8 : cs.length ≤ 8 := by rw [hcl, List.size_toArray, hz8]; omega
    have hzg : (cs.map fun c => [c]).flatten.length ≤ 8 := by rw [hfl]; exact hcl8
    have hzf : (cs.map fun c => [c]).flatten.length ≤ 1000000 := by rw [hfl]; omega
    obtain ⟨x, hx⟩ : ∃ x, [37, 42, 60, 95, 91] ++ (cs.map fun c => [c]).flatten = x := ⟨_, rfl⟩
    k_steps
    unfold MyStop
    (rename ¬ _ < _ => hnz)
    (rename _ + List.length _ ≤ _ => hle0)
    simp only [List.length_cons, List.length_nil] at hle0
    refine wpAny_with_toks (Nat.le_refl _) ?_
    refine ent_mono ?_
    k_dflt (refine' law_order_call ?p0 ?p1 ?p2 ?p3 ?kB ?kF ?kX ?kN ?kT ?kk ?kd ?ku ?_)
    (case kF => k_asm)
    (case kN => k_asm)
    (case p0 => assumption)
    (case p1 => assumption)
    (case p2 => omega)
    (case p3 => dsimp only; omega)
    (case kB => k_asm)
    (case kX => k_asm)
    (case kT => k_asm)
    (case kk => exact rfl)
    (case kd => ktr_room)
    (case ku => ktr_units)
    intro lo n0 h20 tk20 o F20 N20 hl20 hp hto hle1
    dsimp only at hle1
    k_whole
    have hon : (ordC o).Nodup := hp.nodup_iff.mpr (by decide)
    have hoc : ∀ c ∈ ordC o, c = 42 ∨ c = 91 ∨ c = 37 ∨ c = 63 ∨ c = 95 := fun c hc => by simpa using hp.mem_iff.mp hc
    have hol : o.length = 5 := by have := hp.length_eq; simpa [ordC] using this
    have h42 : 42 ∈ ordC o := hp.mem_iff.mpr (by decide)
    have h63 : 63 ∈ ordC o := hp.mem_iff.mpr (by decide)
    have h37 : 37 ∈ ordC o := hp.mem_iff.mpr (by decide)
    have h95 : 95 ∈ ordC o := hp.mem_iff.mpr (by decide)
    have h91 : 91 ∈ ordC o := hp.mem_iff.mpr (by decide)
    k_steps
    unfold MyStop
    refine wpAny_with_toks (Nat.le_refl _) ?_
    refine ent_mono ?_
    k_dflt (refine' law_table_call ?p0 ?p1 ?p2 ?p3 ?p4 ?p5 ?kB ?kF ?kX ?kN ?kT ?kk ?kd ?ku ?_)
    (case kF => k_asm)
    (case kN => k_asm)
    (case p2 => k_mem)
    (case p0 => dsimp only; omega)
    (case p1 => omega)
    (case p3 => exact fun p hp => ⟨(hto p hp).1, by have h9 : @LT.lt Nat _ p.2 tk20 := (hto p hp).2; (show @LT.lt Nat _ _ _); dsimp only; omega⟩)
    (case p4 => exact hoc)
    (case p5 => exact hon)
    (case kB => k_asm)
    (case kX => k_asm)
    (case kT => k_asm)
    (case kk => exact rfl)
    (case kd => ktr_room)
    (case ku => ktr_units)
    intro D1 l1 ep1 h21 tk21 F21 N21 hd21 hs21 hT1 hK1 hle2
    dsimp only at hle2
    k_whole
    have hD1 : @Ne Nat D1 lo := fun e => hd21.1 e.symm
    k_steps
    unfold MyStop
    have hxa : ∀ c ∈ x, c ∈ alph := by
      rw [← hx, hfl]
      intro c hc
      rcases List.mem_append.mp hc with h | h
      · exact (show ∀ c ∈ [37, 42, 60, 95, 91], c ∈ alph by decide) c h
      · exact hcs c h
    have hxl : x.length ≤ 13 := by rw [← hx, hfl, List.length_append]; simp; omega
    obtain ⟨hR1, hb1, hb2, ⟨ts1, hW1, hok1, hln1, hre1⟩, ⟨hb3, hb4, hb5⟩, ⟨ts2, hW2, hok2, hln2, hre2⟩⟩ := plain_law hxa hxl hp hT1 hK1
    have hnd1 := (tabKV_nodup (i := o.length) hon (by omega) (by rw [List.take_length]; exact hT1)).1
    have hlk1 : l1.length = 5 := by have := congrArg List.length hT1; simpa [ordC, hol] using this
    rcases l1 with _ | ⟨e1, l1⟩
    · cases hlk1
    rw [List.length_cons] at hlk1
    refine wpAny_with_toks (Nat.le_refl _) ?_
    refine ent_mono ?_
    k_dflt (refine' escape_call ?p0 ?p1 ?p2 ?p3 ?p4 ?p5 ?p6 ?p7 ?kB ?kF ?kX ?kN ?kT ?kk ?kd ?ku ?q0 ?_)
    (case kF => k_asm)
    (case kN => k_asm)
    (case p0 => k_mem)
    (case p1 => exact hnd1)
    (case p2 => exact hR1)
    (case p3 => exact hs21)
    (case p4 => omega)
    (case p5 => omega)
    (case p6 => exact hb1)
    (case p7 => exact hb2)
    (case kB => k_asm)
    (case kX => k_asm)
    (case kT => k_asm)
    (case kk => exact rfl)
    (case kd => ktr_room)
    (case ku => ktr_units)
    (case q0 => dsimp only; omega)
    intro tw h22 tk22 F22 N22 hle3
    dsimp only at hle3
    k_whole
    generalize hW : replAll (htm x) (e1 :: l1) = W at *
    have q82a : @Ne Nat lo 82 := fun e => hl20.2.2.1 e.symm
    have q82b : @Ne Nat D1 82 := fun e => hd21.2.2.2.1 e.symm
    have q82c : @Ne Nat D2 82 := fun e => o9.2.1 e.symm
    k_steps
    unfold MyStop
    refine wpAny_with_toks (Nat.le_refl _) ?_
    refine ent_mono ?_
    k_dflt (refine' translate_call2 ?p0 ?p1 ?p2 ?p3 ?p4 ?kB ?kF ?kX ?kN ?kT ?kk ?kd ?ku ?_)
    (case kF => k_asm)
    (case kN => k_asm)
    (case p0 => exact hW1)
    (case p1 => exact hok1)
    (case p2 => exact hln1)
    (case p3 => k_updF)
    (case p4 => exact Or.inl rfl)
    (case kB => k_asm)
    (case kX => k_asm)
    (case kT => k_asm)
    (case kk => exact rfl)
    (case kd => ktr_room)
    (case ku => ktr_units)
    intro ps1 tt1 h23 tk23 F23 N23 hg23 hle4
    dsimp only at hle4
    k_whole
    k_steps
    unfold MyStop
    have hq1 : mkS (rend (ts1.map tokItem)) = mkS (rend (x.flatMap fun c => rowOf c (ordC o) true)) := by rw [hre1]
    have hq2 : mkS (rend (ts2.map tokItem)) = mkS (rend (x.flatMap fun c => rowOf c (ordC o) false)) := by rw [hre2]
    refine wpAny_with_toks (Nat.le_refl _) ?_
    refine ent_mono ?_
    k_dflt (refine' law_told_call ?p0 ?p1 ?p2 ?p3 ?p4 ?p5 ?p6 ?p7 ?p8 ?kB ?kF ?kX ?kN ?kT ?kk ?kd ?ku ?_)
    (case kF => k_asm)
    (case kN => k_asm)
    (case p8 => k_mem)
    (case p0 => exact hxa)
    (case p1 => omega)
    (case p2 => exact h42)
    (case p3 => exact h63)
    (case p4 => exact h37)
    (case p5 => exact h95)
    (case p6 => exact h91)
    (case p7 => omega)
    (case kB => k_asm)
    (case kX => k_asm)
    (case kT => k_asm)
    (case kk => exact rfl)
    (case kd => ktr_room)
    (case ku => ktr_units)
    intro tt2 h24 tk24 F24 N24 hle5
    dsimp only at hle5
    k_whole
    k_steps
    unfold MyStop
    refine wpAny_with_toks (Nat.le_refl _) ?_
    refine ent_mono ?_
    k_dflt (refine' unescape_call1 ?p0 ?p1 ?p2 ?kB ?kF ?kX ?kN ?kT ?kk ?kd ?ku ?q0 ?_)
    (case kF => k_asm)
    (case kN => k_asm)
    (case p0 => exact hb3)
    (case p1 => exact hb4)
    (case p2 => exact hb5)
    (case kB => k_asm)
    (case kX => k_asm)
    (case kT => k_asm)
    (case kk => exact rfl)
    (case kd => ktr_room)
    (case ku => ktr_units)
    (case q0 => dsimp only; omega)
    intro tt3 h25 tk25 F25 N25 hle6
    dsimp only at hle6
    k_whole
    k_steps
    unfold MyStop
    refine wpAny_with_toks (Nat.le_refl _) ?_
    refine ent_mono ?_
    k_dflt (refine' translate_call2 ?p0 ?p1 ?p2 ?p3 ?p4 ?kB ?kF ?kX ?kN ?kT ?kk ?kd ?ku ?_)
    (case kF => k_asm)
    (case kN => k_asm)
    (case p0 => exact hW2)
    (case p1 => exact hok2)
    (case p2 => exact hln2)
    (case p3 => k_updF)
    (case p4 => exact hg23)
    (case kB => k_asm)
    (case kX => k_asm)
    (case kT => k_asm)
    (case kk => exact rfl)
    (case kd => ktr_room)
    (case ku => ktr_units)
    intro ps2 tt4 h26 tk26 F26 N26 hg26 hle7
    dsimp only at hle7
    k_whole
    k_steps
    unfold MyStop
    refine wpAny_with_toks (Nat.le_refl _) ?_
    refine ent_mono ?_
    k_dflt (refine' law_told_call ?p0 ?p1 ?p2 ?p3 ?p4 ?p5 ?p6 ?p7 ?p8 ?kB ?kF ?kX ?kN ?kT ?kk ?kd ?ku ?_)
    (case kF => k_asm)
    (case kN => k_asm)
    (case p8 => k_mem)
    (case p0 => exact hxa)
    (case p1 => omega)
    (case p2 => exact h42)
    (case p3 => exact h63)
    (case p4 => exact h37)
    (case p5 => exact h95)
    (case p6 => exact h91)
    (case p7 => omega)
    (case kB => k_asm)
    (case kX => k_asm)
    (case kT => k_asm)
    (case kk => exact rfl)
    (case kd => ktr_room)
    (case ku => ktr_units)
    intro tt5 h27 tk27 F27 N27 hle8
    dsimp only at hle8
    k_whole
    k_steps
    unfold MyStop
    have hoS : (ordA o).size ≤ sizeLine := by unfold ordA; have := sizeLine_eq; simp; omega
    (rename Fr _ _ _ _ => F28)
    (rename News _ _ _ _ => N28)
    refine LCt.CompSrcT.ledger (ax := lo) (its := ordA o) (k := n0) (by rfl) F28 N28 ?mem hoS ?_
    case mem => k_mem
    intro g28
    refine comp_restT (fun i ys => ys = ((o.take i).filter fun q => three q.1).map fun q => Value.str (mkS [q.1]) q.2) _ ?t3 ?f3 _ 0 [] (Nat.zero_add _) rfl
    case t3 =>
      rintro i v ys I3 oI C3 oC D3 m3 h29 tk29 E3 hi3 hys hv3 hC hx3 F29 N29 off ne
      obtain ⟨c, tc, hct, rfl⟩ := ordA_get hv3
      have hc5 := hoc c (List.mem_map_of_mem (List.mem_of_getElem? hct))
      have hfi : ∀ b, three c = b → ((o.take (i + 1)).filter fun q => three q.1).map (fun q => Value.str (mkS [q.1]) q.2) = ys ++ (if b = true then [Value.str (mkS [c]) tc] else []) := fun b hb => by
        rw [List.take_add_one, hct, List.filter_append, List.map_append, ← hys]
        congr 1
        cases b <;> simp [hb]
      rcases hc5 with rfl | rfl | rfl | rfl | rfl
      · k_steps
        unfold MyStop
        refine' LCg.CompEnd.intro F29 N29 _ ?sub off ?hS ?rr
        case sub => exact fun p hp => hp
        case hS => exact Or.inr ⟨_, by k_mem, rfl, _, rfl⟩
        case rr => exact ⟨rfl, (hfi true (by decide)).symm⟩
      · k_steps
        unfold MyStop
        refine' LCg.CompEnd.intro F29 N29 _ ?sub off ?hS ?rr
        case sub => exact fun p hp => hp
        case hS => exact Or.inr ⟨_, by k_mem, rfl, _, rfl⟩
        case rr => exact ⟨rfl, (hfi true (by decide)).symm⟩
      · k_steps
        unfold MyStop
        refine' LCg.CompEnd.intro F29 N29 _ ?sub off ?hS ?rr
        case sub => exact fun p hp => hp
        case hS => exact Or.inr ⟨_, by k_mem, rfl, _, rfl⟩
        case rr => exact ⟨rfl, by have := hfi false (by decide); simpa using this.symm⟩
      · k_steps
        unfold MyStop
        refine' LCg.CompEnd.intro F29 N29 _ ?sub off ?hS ?rr
        case sub => exact fun p hp => hp
        case hS => exact Or.inr ⟨_, by k_mem, rfl, _, rfl⟩
        case rr => exact ⟨rfl, (hfi true (by decide)).symm⟩
      · k_steps
        unfold MyStop
        refine' LCg.CompEnd.intro F29 N29 _ ?sub off ?hS ?rr
        case sub => exact fun p hp => hp
        case hS => exact Or.inr ⟨_, by k_mem, rfl, _, rfl⟩
        case rr => exact ⟨rfl, by have := hfi false (by decide); simpa using this.symm⟩
    case f3 =>
      rintro ys hys
      have hosz : (ordA o).size = o.length := by unfold ordA; simp
      rw [hosz, List.take_length] at hys
      obtain ⟨o3, ho3⟩ : ∃ o3, (o.filter fun q => three q.1) = o3 := ⟨_, rfl⟩
      rw [ho3] at hys
      unfold LCg.FinA
      intro D3 h30 tk30 F30 N30 o30
      have e31 : ordA o3 = ys.toArray := by rw [hys]; rfl
      have hlst : LCg.lst ys = listOf (ordA o3) ys.length := by rw [e31]
      rw [hlst] at N30
      have hm3 : ∀ q ∈ o3, q ∈ o ∧ three q.1 = true := fun q hq => by rw [← ho3] at hq; exact List.mem_filter.mp hq
      have hc3 : ordC o3 = (ordC o).filter three := by rw [← ho3]; unfold ordC; rw [List.filter_map]; rfl
      have hp3 : (ordC o3).Perm [42, 91, 63] := by rw [hc3]; exact (hp.filter three).trans (by decide)
      have hon3 : (ordC o3).Nodup := hp3.nodup_iff.mpr (by decide)
      have hol3 : o3.length = 3 := by have := hp3.length_eq; simpa [ordC] using this
      have hoc3 : ∀ c ∈ ordC o3, c = 42 ∨ c = 91 ∨ c = 37 ∨ c = 63 ∨ c = 95 := fun c hc => by
        have := hp3.mem_iff.mp hc
        simp only [List.mem_cons, List.not_mem_nil, or_false] at this
        rcases this with h | h | h
        · exact .inl h
        · exact .inr (.inl h)
        · exact .inr (.inr (.inr (.inl h)))
      k_steps
      unfold MyStop
      refine wpAny_with_toks (Nat.le_refl _) ?_
      refine ent_mono ?_
      k_dflt (refine' law_table_call ?p0 ?p1 ?p2 ?p3 ?p4 ?p5 ?kB ?kF ?kX ?kN ?kT ?kk ?kd ?ku ?_)
      (case kF => k_asm)
      (case kN => k_asm)
      (case p2 => k_mem)
      (case p0 => dsimp only; omega)
      (case p1 => omega)
      (case p3 => exact fun p hp => ⟨(hto p (hm3 p hp).1).1, by have h9 : @LT.lt Nat _ p.2 tk20 := (hto p (hm3 p hp).1).2; (show @LT.lt Nat _ _ _); dsimp only; omega⟩)
      (case p4 => exact hoc3)
      (case p5 => exact hon3)
      (case kB => k_asm)
      (case kX => k_asm)
      (case kT => k_asm)
      (case kk => exact rfl)
      (case kd => ktr_room)
      (case ku => ktr_units)
      intro D4 l3 ep3 h31 tk31 F31 N31 hd31 hs31 hT3 hK3 hle9
      dsimp only at hle9
      k_whole
      have hD43 : @Ne Nat D4 D3 := fun e => hd31.1 e.symm
      have hR3 := plain_rok hxa hxl (by unfold ordC; rw [List.length_map]; omega) hT3 hK3
      have hnd3 := (tabKV_nodup (i := o3.length) hon3 (by omega) (by rw [List.take_length]; exact hT3)).1
      have hlk3 : l3.length = 3 := by have := congrArg List.length hT3; simpa [ordC, hol3] using this
      rcases l3 with _ | ⟨e3, l3⟩
      · cases hlk3
      rw [List.length_cons] at hlk3
      k_steps
      unfold MyStop
      refine wpAny_with_toks (Nat.le_refl _) ?_
      refine ent_mono ?_
      k_dflt (refine' escape_call ?p0 ?p1 ?p2 ?p3 ?p4 ?p5 ?p6 ?p7 ?kB ?kF ?kX ?kN ?kT ?kk ?kd ?ku ?q0 ?_)
      (case kF => k_asm)
      (case kN => k_asm)
      (case p0 => k_mem)
      (case p1 => exact hnd3)
      (case p2 => exact hR3)
      (case p3 => exact hs31)
      (case p4 => omega)
      (case p5 => omega)
      (case p6 => exact hb1)
      (case p7 => exact hb2)
      (case kB => k_asm)
      (case kX => k_asm)
      (case kT => k_asm)
      (case kk => exact rfl)
      (case kd => ktr_room)
      (case ku => ktr_units)
      (case q0 => dsimp only; omega)
      intro tw3 h32 tk32 F32 N32 hle10
      dsimp only at hle10
      k_whole
      k_steps
      unfold MyStop
      refine wpAny_with_toks (Nat.le_refl _) ?_
      refine ent_mono ?_
      k_dflt (refine' law_turned_call ?p0 ?p1 ?p2 ?p3 ?p4 ?kB ?kF ?kX ?kN ?kT ?kk ?kd ?ku ?_)
      (case kF => k_asm)
      (case kN => k_asm)
      (case p2 => k_mem)
      (case p0 => dsimp only; omega)
      (case p1 => omega)
      (case p3 => exact fun p hp => ⟨(hto p (hm3 p hp).1).1, by have h9 : @LT.lt Nat _ p.2 tk20 := (hto p (hm3 p hp).1).2; (show @LT.lt Nat _ _ _); dsimp only; omega⟩)
      (case p4 => exact hon3)
      (case kB => k_asm)
      (case kX => k_asm)
      (case kT => k_asm)
      (case kk => exact rfl)
      (case kd => ktr_room)
      (case ku => ktr_units)
      intro D5 l4 ep4 h33 tk33 F33 N33 hd33 hs33 hT4 hK4 hle11
      dsimp only at hle11
      k_whole
      obtain ⟨hR4, hb6, hb7, hb8, hback⟩ := plain_back hxa hxl hp3 hT3 hK3 hT4 hK4
      have hnd4 := (turnKV_nodup (o := o3.reverse) (i := o3.reverse.length) (by rw [ordC_rev]; exact (List.reverse_perm _).nodup_iff.mpr hon3) (by rw [List.length_reverse]; omega) (by rw [List.take_length, ordC_rev]; exact hT4)).1
      have hlk4 : l4.length = 3 := by have := congrArg List.length hT4; simpa [ordC, hol3] using this
      rcases l4 with _ | ⟨e4, l4⟩
      · cases hlk4
      rw [List.length_cons] at hlk4
      have hq3 : mkS (unh3 (replAll (unh2 (replAll (htm x) (e3 :: l3))) (e4 :: l4))) = mkS x := by rw [hback]
      k_steps
      unfold MyStop
      refine wpAny_with_toks (Nat.le_refl _) ?_
      refine ent_mono ?_
      k_dflt (refine' unescape_call ?p0 ?p1 ?p2 ?p3 ?p4 ?p5 ?p6 ?p7 ?kB ?kF ?kX ?kN ?kT ?kk ?kd ?ku ?q0 ?_)
      (case kF => k_asm)
      (case kN => k_asm)
      (case p0 => k_mem)
      (case p1 => exact hnd4)
      (case p2 => exact hR4)
      (case p3 => exact hs33)
      (case p4 => omega)
      (case p5 => exact hb6)
      (case p6 => exact hb7)
      (case p7 => exact hb8)
      (case kB => k_asm)
      (case kX => k_asm)
      (case kT => k_asm)
      (case kk => exact rfl)
      (case kd => ktr_room)
      (case ku => ktr_units)
      (case q0 => dsimp only; omega)
      intro tw4 h34 tk34 F34 N34 hle12
      dsimp only at hle12
      k_whole
      k_steps)
end V5
end
end Mine

theorem PySem.Challenge.cw_ij0033_01_holds : PySem.Challenge.rw_ij0033_01.Holds := by
  exact Mine.my_law
