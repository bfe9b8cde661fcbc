import PyProof.Rows.All
import Wide.All
import OpenK.AllK
import Wide.FinOn
import PySem.Challenge.RW_tx0012_01
set_option Elab.async false
set_option maxRecDepth 100000
section
open PySem PySem.W PyProof.Rows
namespace Mine
noncomputable def rowKeep : List Stmt → List Stmt
  | [_, a, _, b, c, _, d, e, f, g, _, h, i, j, k, l, m, n, o, p, q] => [a, b, c, d, e, f, g, h, i, j, k, l, m, n, o, p, q]
  | l => l
noncomputable def rowView : Program := { PySem.Challenge.rw_tx0012_01.row.toRowW.prog with main := { PySem.Challenge.rw_tx0012_01.row.toRowW.prog.main with body := rowKeep PySem.Challenge.rw_tx0012_01.row.toRowW.prog.main.body } }
theorem wellSaid : PySem.Challenge.rw_tx0012_01.wellSaid = true := by
  have h := congrFun PySem.W.Fast.te9446332074065402090 PySem.Challenge.rw_tx0012_01
  rw [h]
  kernel_rfl
theorem stubHold (H : Hook) (hw : PySem.Challenge.rw_tx0012_01.row.toRowW.promised) (hc : (∀ w h, H.says w h → H.says w h) → PySem.Challenge.rw_tx0012_01.row.Holds) : PySem.Challenge.rw_tx0012_01.row.Holds := hc fun _ _ h => h
local macro_rules | `(tactic| o_law) => `(tactic| refine holds_law wellSaid fun said => ?_)
local macro_rules | `(tactic| o_head $H:term) => `(tactic| refine stubHold $H ?hw ?hc)
set_option maxHeartbeats 8000000 in
open_top ka for PySem.Challenge.rw_tx0012_01
noncomputable def rowHook : Hook := kmHook ka.heap_1 [2,3,22,24,25,27,28,29,31,32,34,35,36,38,39,41,42,43,45,46,48,49,50,51,52,53,54,57,58,60,61,63,64,65,72,73,74,75,78,85,86,87,90,97,98,99,102,104,105,107,108,109,112,113,114,117,118,119,122,123,124,126,127,129,130,131,133,134,136,137,138,140,141,143,144,145,147,148,150,151,152,154,155,157,158,159,161,162,164,165,166,169,170] (fun _ => by kernel_rfl) [160]
noncomputable abbrev rowProg : Program := PySem.Challenge.rw_tx0012_01.row.toRowW.prog
noncomputable abbrev rowXt (s : Shared) : Bool := xlAt rowView [] s && recOk (RowW.records PySem.Challenge.rw_tx0012_01.row.toRowW) s
noncomputable abbrev rowLoose : List Str := [Str.ofString "COMPILER_FLAG_NAMES"]
theorem left_boot {p q : Program} {loose : List Str} {Xt : Shared → Bool} {α : Type} {Yf : Shared → α} {Ya : World → α} {N : Nat} {g0 : Bool} {H₀ : Params → Heap} {gs₀ : Array GenState} {d₀ : Drawn} {k₀ : Nat}
    (open_ : ∀ w : World, (fencedOpening treeTable p w N).map (fun s => (s.heap, s.gens, s.drawn, s.toks)) = some (H₀ w.params, gs₀, d₀, k₀))
    (h : ∀ (w : World), ∀ os : OsState, (topFrom treeTable p w N ⟨H₀ w.params, gs₀, d₀, k₀, os⟩).map (fun s => (openSeen q loose (importedModules p.main.body) Xt g0 s, Yf s)) = some (openGood q loose, Ya w)) : LeftO p q loose Xt Yf Ya N g0 := fun w => by
  obtain ⟨⟨h', gs, d, k, os⟩, e, e'⟩ := Option.map_eq_some_iff.mp (open_ w)
  obtain ⟨rfl, rfl, rfl, rfl⟩ : h' = H₀ w.params ∧ gs = gs₀ ∧ d = d₀ ∧ k = k₀ := by simpa using e'
  unfold openEnds
  rw [e]
  exact h w os
theorem row_open : ∀ w : World, (fencedOpening treeTable rowProg w 3104).map (fun s => (s.heap, s.gens, s.drawn, s.toks)) = some (boot_heap w.params, Array.mk [], boot_drawn, boot_toks) :=
  boot_open (by kernel_rfl) (by kernel_rfl) (fun s => by kernel_rfl)
noncomputable def goT (ok : Thread → Bool) (st : SharedT → Thread → Option (SharedT × Thread)) (n : Nat) : SharedT → Thread → Option SharedT :=
  Nat.rec (fun _ _ => none) (fun _ ih s t => match through t with
    | true => some s
    | false => match ok t with
      | false => none
      | true => match st s t with
        | some (s', t') => ih s' t'
        | none => none) n
theorem goT_of {tb : String → Option Builtin} {p : Program} {w : World} {n₀ : Nat} {ann : Option Value} : ∀ (n : Nat) (s s' : SharedT) (t : Thread),
    goT (stepOk n₀ ann) (stepT (denote tb) p w) n s t = some s' → topRun tb p w n₀ ann n s.abs t = some s'.abs
  | 0, _, _, _, h => by cases h
  | n + 1, s, s', t, h => by
    have h : (match through t with | true => some s | false => match stepOk n₀ ann t with | false => none | true => match stepT (denote tb) p w s t with | some (s', t') => goT (stepOk n₀ ann) (stepT (denote tb) p w) n s' t' | none => none) = some s' := h
    unfold topRun
    cases ht : through t with
    | true => rw [ht] at h; cases h; rfl
    | false =>
      rw [ht] at h
      cases hk : stepOk n₀ ann t with
      | false => rw [hk] at h; cases h
      | true =>
        rw [hk] at h
        cases hs : stepT (denote tb) p w s t with
        | none => rw [hs] at h; cases h
        | some r => obtain ⟨s₂, t₂⟩ := r; rw [hs] at h; rw [stepT_spec hs]; exact goT_of n _ _ _ h
noncomputable def treeOfL (l : List Obj) : BT := (l.foldl (fun (p : BT × Nat) o => (p.1.ins p.2 o, p.2 + 1)) (.nil, 0)).1
noncomputable abbrev startT (w : World) (os : OsState) : SharedT := ⟨treeOfL (boot_heap w.params).objs.toList, 11, (boot_heap w.params).life, Array.mk [], boot_drawn, boot_toks, os⟩
theorem startT_abs (w : World) (os : OsState) : (startT w os).abs = ⟨boot_heap w.params, Array.mk [], boot_drawn, boot_toks, os⟩ := by kernel_rfl
noncomputable abbrev runT (w : World) (os : OsState) : Option SharedT := goT (stepOk 11 ((boot_heap w.params).nsMap mainGlobals (Str.ofString "__annotations__"))) (stepT (denote treeTable) rowProg w) 3104 (startT w os) (topStub rowProg)
theorem boot_size (w : World) : (boot_heap w.params).objs.size = 11 := by kernel_rfl
/-- what is asked of the state behind the top -/
noncomputable abbrev lookT (w : World) (s : SharedT) := ((staticsOk (importedModules rowProg.main.body) (boot_heap w.params) s.abs.heap && namesBound rowProg s.abs.heap && gensDone s.abs && laidKept (boot_heap w.params) s.abs.heap), openSeen rowView rowLoose (importedModules rowProg.main.body) rowXt true s.abs, rowHook.obs s.abs)
theorem top_of_run {w : World} {os : OsState} (h : (runT w os).map (lookT w) = some (true, openGood rowView rowLoose, rowHook.val w)) :
    (topFrom treeTable rowProg w 3104 ⟨boot_heap w.params, Array.mk [], boot_drawn, boot_toks, os⟩).map (fun s => (openSeen rowView rowLoose (importedModules rowProg.main.body) rowXt true s, rowHook.obs s)) = some (openGood rowView rowLoose, rowHook.val w) := by
  obtain ⟨s, hs, e⟩ := Option.map_eq_some_iff.mp h
  have r := goT_of _ _ _ _ hs
  rw [startT_abs] at r
  obtain ⟨e1, e2, e3⟩ : _ ∧ _ ∧ _ := by simpa only [Prod.mk.injEq] using e
  have b : ((boot_heap w.params).isNs mainGlobals && (Array.mk [] : Array GenState).size == 0) = true := by kernel_rfl
  have t : topFrom treeTable rowProg w 3104 ⟨boot_heap w.params, Array.mk [], boot_drawn, boot_toks, os⟩ = some s.abs := by
    unfold topFrom
    dsimp only
    rw [b, boot_size, r]
    show (match (staticsOk (importedModules rowProg.main.body) (boot_heap w.params) s.abs.heap && namesBound rowProg s.abs.heap && gensDone s.abs && laidKept (boot_heap w.params) s.abs.heap) with | true => some s.abs | false => none) = _
    rw [e1]
  rw [t]
  exact congrArg some (Prod.ext e2 e3)
theorem row_left_false (w : World) (os : OsState) : (runT (w.withFollow "special-get-raises" false) os).map (lookT (w.withFollow "special-get-raises" false)) = some (true, openGood rowView rowLoose, rowHook.val (w.withFollow "special-get-raises" false)) := by
  unfold runT lookT
  rw [PySem.W.Fast.te10156331382660048174, PySem.W.Fast.te14364793385576792824, PySem.W.Fast.te11892475500146522536, PySem.W.Fast.te6613529449190102663, PySem.W.Fast.te4187177175401517315]
  kernel_rfl
theorem row_left_true (w : World) (os : OsState) : (runT (w.withFollow "special-get-raises" true) os).map (lookT (w.withFollow "special-get-raises" true)) = some (true, openGood rowView rowLoose, rowHook.val (w.withFollow "special-get-raises" true)) := by
  unfold runT lookT
  rw [PySem.W.Fast.te10156331382660048174, PySem.W.Fast.te14364793385576792824, PySem.W.Fast.te11892475500146522536, PySem.W.Fast.te6613529449190102663, PySem.W.Fast.te4187177175401517315]
  kernel_rfl
theorem row_left : LeftO rowProg rowView rowLoose rowXt rowHook.obs rowHook.val 3104 :=
  left_boot row_open (byRow2 "special-get-raises" (P := fun w => ∀ os : OsState, (topFrom treeTable rowProg w 3104 ⟨boot_heap w.params, Array.mk [], boot_drawn, boot_toks, os⟩).map (fun s => (openSeen rowView rowLoose (importedModules rowProg.main.body) rowXt true s, rowHook.obs s)) = some (openGood rowView rowLoose, rowHook.val w)) (fun w os => top_of_run (row_left_false w os)) (fun w os => top_of_run (row_left_true w os)))
local macro_rules | `(tactic| o_head $H:term) => `(tactic| (
  refine holds_open (q := Mine.rowView) (loose := [Str.ofString "COMPILER_FLAG_NAMES"]) (Xt := fun s => xlAt Mine.rowView [] s && recOk (RowW.records PySem.Challenge.rw_tx0012_01.row.toRowW) s) (XP := XL Mine.rowView []) (Yf := Hook.obs $H) (Ya := Hook.val $H) (YP := Hook.says $H) (N := 3104) ?hl (Hook.of $H) (Hook.keeps $H) (fun s e => xl_of s (Bool.and_eq_true_iff.mp e).1) XL.keeps (by rfl) (by rfl) (by rfl) (fun s e => recFacts_of (Bool.and_eq_true_iff.mp e).2) (by rfl) (by first | assumption | decide +kernel) (by decide +kernel) ⟨rfl, rfl, rfl, rfl, rfl, by decide +kernel⟩ ?hw ?hc;
  (case hl => exact row_left)))
set_option maxHeartbeats 8000000 in
open_top hd for PySem.Challenge.rw_tx0012_01
end Mine
end

section
open PySem PySem.W PyProof.Rows PySem.Spec PySem.Calls
namespace Mine
theorem start_B1 : True := by
  w_top off
  trivial
/-- what a call of a def promises its caller -/
noncomputable def Con (prog : Program) (w : World) (mean : ExcName → Option Value) (mg mb : Str → Option Value) (f : Addr) (args : List Value) (news : List (Addr × Obj)) (D U : Nat) (post : Value → List (Addr × Obj) → Prop) : Prop :=
  ∀ (dp un : Nat) (gd : Option (List Code)) (cn : Str) (cs : Scope) (a : Addr) (ccd : Value) (cl : List (Str × Addr)) (outer : List Env) (A₀ : Around) (base h₀ : Heap) (L : Addr) (m : Str → Option Value) (s : Shared) (R : Result → Shared → Prop),
    Below A₀ base outer h₀ → Fr h₀ L s.heap m → (hd.heap_1 w.params).In h₀ → News h₀ L s.heap news → CodeHd base (164, 160).fst (164, 160).snd →
    Top topProg (looseW rowView [Str.ofString "COMPILER_FLAG_NAMES"] ++ List.map (fun x => x.name) (recsOf rowView) ++
      List.map (fun x => x.fst) (litsOf rowView) ++
    List.map (fun x => x.name) (clssOf rowView (looseW rowView [Str.ofString "COMPILER_FLAG_NAMES"]))) mean mg mb h₀ → cs.kind = .function →
    dp + D < recursionLimit → un + U < cLine →
    (∀ r news' h' tk', Fr h₀ L h' m → News h₀ L h' news' → post r news' → R (.ok (.ret r)) { s with heap := h', toks := tk' }) →
    codeAny (model prog w) (ktrTop dp un gd cn cs L a ccd cl outer) (.call (.ref f) ⟨args, []⟩) R s
noncomputable abbrev ConV (prog : Program) (w : World) (mean : ExcName → Option Value) (mg mb : Str → Option Value) (f : Addr) (args : List Value) (news : List (Addr × Obj)) (D U : Nat) (R : Tok → Value) : Prop :=
  Con prog w mean mg mb f args news D U fun r news' => ∃ t, r = R t ∧ news' = news
section
variable {prog : Program} {w : World} {mean : ExcName → Option Value} {mg mb : Str → Option Value} {f : Addr} {args : List Value} {news : List (Addr × Obj)} {D U : Nat} {post : Value → List (Addr × Obj) → Prop}
  {dp un : Nat} {gd : Option (List Code)} {cn : Str} {cs : Scope} {a : Addr} {ccd : Value} {cl : List (Str × Addr)} {outer : List Env} {A₀ : Around} {base h₀ : Heap} {L : Addr} {m : Str → Option Value} {s : Shared} {Q E : Value → Shared → Prop}
theorem Con.use (C : Con prog w mean mg mb f args news D U post)
    (B : Below A₀ base outer h₀) (F : Fr h₀ L s.heap m) (X : (hd.heap_1 w.params).In h₀) (N : News h₀ L s.heap news) (H : CodeHd base (164, 160).fst (164, 160).snd)
    (T : Top topProg (looseW rowView [Str.ofString "COMPILER_FLAG_NAMES"] ++ List.map (fun x => x.name) (recsOf rowView) ++
      List.map (fun x => x.fst) (litsOf rowView) ++
    List.map (fun x => x.name) (clssOf rowView (looseW rowView [Str.ofString "COMPILER_FLAG_NAMES"]))) mean mg mb h₀) (hk : cs.kind = .function)
    (hd : dp + D < recursionLimit) (hu : un + U < cLine)
    (h : ∀ r news' h' tk', Fr h₀ L h' m → News h₀ L h' news' → post r news' → Q r { s with heap := h', toks := tk' }) :
    wpAny (model prog w) (ktrTop dp un gd cn cs L a ccd cl outer) (call (.ref f) args) Q E s :=
  wpAny_call (C _ _ _ _ _ _ _ _ _ _ _ _ _ _ _ _ B F X N H T hk hd hu h)
theorem Con.useV {R : Tok → Value} (C : ConV prog w mean mg mb f args news D U R)
    (B : Below A₀ base outer h₀) (F : Fr h₀ L s.heap m) (X : (hd.heap_1 w.params).In h₀) (N : News h₀ L s.heap news) (H : CodeHd base (164, 160).fst (164, 160).snd)
    (T : Top topProg (looseW rowView [Str.ofString "COMPILER_FLAG_NAMES"] ++ List.map (fun x => x.name) (recsOf rowView) ++
      List.map (fun x => x.fst) (litsOf rowView) ++
    List.map (fun x => x.name) (clssOf rowView (looseW rowView [Str.ofString "COMPILER_FLAG_NAMES"]))) mean mg mb h₀) (hk : cs.kind = .function)
    (hd : dp + D < recursionLimit) (hu : un + U < cLine)
    (h : ∀ t h' tk', Fr h₀ L h' m → News h₀ L h' news → Q (R t) { s with heap := h', toks := tk' }) :
    wpAny (model prog w) (ktrTop dp un gd cn cs L a ccd cl outer) (call (.ref f) args) Q E s :=
  wpAny_call (C _ _ _ _ _ _ _ _ _ _ _ _ _ _ _ _ B F X N H T hk hd hu fun _ _ h' tk' F' N' ⟨t, e1, e2⟩ => by subst e1 e2; exact h t h' tk' F' N')
end
theorem rowSay {P : Prop} (h : PySem.Challenge.rw_tx0012_01 = PySem.Challenge.rw_tx0012_01 → P) : P := h rfl

noncomputable def mark (n : Int) : Str := Txt.item (Str.ofString "|!x") (n.fmod 3)
@[irreducible] noncomputable def told (n : Int) : Str := Str.ofString "(" ++ Txt.mul (mark n) 3 ++ Str.ofString (toString n) ++ mark n ++ Str.ofString ")"
@[irreducible] noncomputable def word (u l : Int) : Str := Str.ofString "229 " ++ told u ++ told l

theorem mark_len (n : Int) : (mark n).length = 1 := rfl
theorem num_len {n : Int} (h0 : 0 ≤ n) (h1 : n < 10 ^ 10) : (Str.ofString (toString n)).length ≤ 10 := KT.len_num h0 h1
theorem told_len {n : Int} (h0 : 0 ≤ n) (h1 : n < 10 ^ 10) : (told n).length ≤ 16 := by
  have e := num_len h0 h1
  have h2 : (Txt.mul (mark n) 3).length = 3 := by
    have := len_mul (mark n) 3
    rw [mark_len] at this
    have : ((Txt.mul (mark n) 3).length : Int) = 3 := by simpa using this
    omega
  have h3 : (Str.ofString "(").length = 1 := by decide +kernel
  have h4 : (Str.ofString ")").length = 1 := by decide +kernel
  unfold told
  simp only [Str.length_append, h2, h3, h4, mark_len]
  omega
theorem word_len {u l : Int} (h0 : 0 ≤ u) (h1 : u < 10 ^ 10) (h2 : 0 ≤ l) (h3 : l < 10 ^ 10) : (word u l).length ≤ 40 := by
  have e1 := told_len h0 h1
  have e2 := told_len h2 h3
  have h3 : (Str.ofString "229 ").length = 4 := by decide +kernel
  unfold word
  simp only [Str.length_append, h3]
  omega

set_option maxHeartbeats 8000000 in
theorem told_con {prog w mean mg mb} (n : Int) (t : Tok) (hn : 0 ≤ n) (hn' : n < 10 ^ 10) (news) : ConV prog w mean mg mb 137 [.int n t] news 1 8 (.str (told n)) := by
  unfold ConV Con
  refine rowSay ?_
  k_fill
  intro _
  intro dp un gd cn cs a ccd cl outer A₀ base h₀ L m s R B F X N C0 T hk hd hu hret
  k_dflt cell_enter
  k_steps
  exact hret _ _ _ _ (by k_asm) (by k_asm) ⟨_, by unfold told mark; rfl, rfl⟩

local macro_rules | `(tactic| walk_at "call ref") => `(tactic| (k_here; k_dflt (refine' Con.useV (told_con _ _ (by assumption) (by assumption) _) (by k_asm) (by k_asm) (by k_asm) (by k_asm) (by assumption) (by k_asm) (by first | exact rfl | assumption) (by ktr_room) (by ktr_units) ?_); intro t9 h9 tk9 F9 N9; (try dsimp only); (try k_fold)))

set_option maxHeartbeats 8000000 in
theorem word_con {prog w mean mg mb} (u l : Int) (t t' : Tok) (hu0 : 0 ≤ u) (hu1 : u < 10 ^ 10) (hl0 : 0 ≤ l) (hl1 : l < 10 ^ 10) (news) : ConV prog w mean mg mb 144 [.int u t, .int l t'] news 2 16 (.str (word u l)) := by
  unfold ConV Con
  refine rowSay ?_
  k_fill
  intro _
  intro dp un gd cn cs a ccd cl outer A₀ base h₀ L m s R B F X N C0 T hk hd hu hret
  have e1 := told_len hu0 hu1
  have e2 := told_len hl0 hl1
  k_dflt cell_enter
  k_steps
  exact hret _ _ _ _ (by k_asm) (by k_asm) ⟨_, by unfold word; rfl, rfl⟩
end Mine
end

section
open PySem PySem.W PyProof.Rows PySem.Spec PySem.Calls
namespace Mine
theorem start_B2 : True := by
  w_top off
  trivial
section
variable {prog : Program} {w : World} {A : Around} {E : Value → Shared → Prop} {s : Shared} {h₀ : Heap} {L : Addr} {m : PySem.Str → Option Value} {news : List (Addr × Obj)} {x y z : PySem.Str} {t u u1 u2 : Tok} {Q : Value → Shared → Prop} {i j k : Int}
theorem find_is (e : Txt.find x y = k) (h : Q (.int k s.toks) { s with toks := s.toks + 1 }) : wpAny (model prog w) A (call (.builtin "str.find") [.str x t, .str y u]) Q E s := by
  subst e; exact SC.find h
theorem find3_is (e : Txt.find3 x y i = k) (h : Q (.int k s.toks) { s with toks := s.toks + 1 }) : wpAny (model prog w) A (call (.builtin "str.find") [.str x t, .str y u, .int i u1]) Q E s := by
  subst e; exact SC.find3 h
theorem ite_not {c : Prop} [Decidable c] {p q : Prop} (h : ¬ c) (hq : q) : if c then p else q := by rw [if_neg h]; exact hq
theorem ne_self_false {x : PySem.Str} : ¬ ((x != x) = true) := by simp
theorem item_is {value slice : PySem.Expr} (e : Txt.item x i = y) (h1 : -(x.length : Int) ≤ i) (h2 : i < x.length) (hr : fitsSsize i = true) (h : Q (.str y s.toks) { s with toks := s.toks + 1 })
    (hs : subscripted slice false (.str x t) (.int i u) = operate [.str x t, .int i u] (getItem (.str x t) (.int i u)) := by with_unfolding_all rfl)
    (ht : ∀ r, letTemporaryGo value (.str x t) r = pure () := by intro _; with_unfolding_all rfl) :
    wpAny (model prog w) A (subscriptTail value slice (.str x t) (.int i u)) Q E s := by
  subst e; exact item_str hr h1 h2 (fun _ => h) hs ht
theorem slice_is {value slice : PySem.Expr} (e : Txt.slice x (some i) (some j) = y) (F : Fr h₀ L s.heap m) (N : News h₀ L s.heap news) (hsz : x.length ≤ sizeLine) (h : ∀ h' t' k, Fr h₀ L h' m → News h₀ L h' news → Q (.str y t') { s with heap := h', toks := k })
    (hs : subscripted slice false (.str x t) (.ref s.heap.objs.size) = operate [.ref s.heap.objs.size, .str x t] (getItem (.str x t) (.ref s.heap.objs.size)) := by with_unfolding_all rfl)
    (ht : ∀ r, letTemporaryGo value (.str x t) r = pure () := by intro _; with_unfolding_all rfl) :
    wpAny (model prog w) A (subscriptTail value slice (.str x t) (.ref s.heap.objs.size)) Q E { s with heap := s.heap.push { cls := .type "slice", data := .fields #[.int i u1, .int j u2, .none] } } := by
  subst e; exact slice_strN_ss (hsz := hsz) F N h hs ht
theorem slice_ns_is {value slice : PySem.Expr} (e : Txt.slice x none (some j) = y) (F : Fr h₀ L s.heap m) (N : News h₀ L s.heap news) (hsz : x.length ≤ sizeLine) (h : ∀ h' t' k, Fr h₀ L h' m → News h₀ L h' news → Q (.str y t') { s with heap := h', toks := k })
    (hs : subscripted slice false (.str x t) (.ref s.heap.objs.size) = operate [.ref s.heap.objs.size, .str x t] (getItem (.str x t) (.ref s.heap.objs.size)) := by with_unfolding_all rfl)
    (ht : ∀ r, letTemporaryGo value (.str x t) r = pure () := by intro _; with_unfolding_all rfl) :
    wpAny (model prog w) A (subscriptTail value slice (.str x t) (.ref s.heap.objs.size)) Q E { s with heap := s.heap.push { cls := .type "slice", data := .fields #[.none, .int j u2, .none] } } := by
  subst e; exact slice_strN_ns (hsz := hsz) F N h hs ht
theorem slice_sn_is {value slice : PySem.Expr} (e : Txt.slice x (some i) none = y) (F : Fr h₀ L s.heap m) (N : News h₀ L s.heap news) (hsz : x.length ≤ sizeLine) (h : ∀ h' t' k, Fr h₀ L h' m → News h₀ L h' news → Q (.str y t') { s with heap := h', toks := k })
    (hs : subscripted slice false (.str x t) (.ref s.heap.objs.size) = operate [.ref s.heap.objs.size, .str x t] (getItem (.str x t) (.ref s.heap.objs.size)) := by with_unfolding_all rfl)
    (ht : ∀ r, letTemporaryGo value (.str x t) r = pure () := by intro _; with_unfolding_all rfl) :
    wpAny (model prog w) A (subscriptTail value slice (.str x t) (.ref s.heap.objs.size)) Q E { s with heap := s.heap.push { cls := .type "slice", data := .fields #[.int i u1, .none, .none] } } := by
  subst e; exact slice_strN_sn (hsz := hsz) F N h hs ht
theorem split5_is {a1 a2 a3 a4 a5 : PySem.Str} (e : Txt.split x y = [a1, a2, a3, a4, a5]) (F : Fr h₀ L s.heap m) (N : News h₀ L s.heap news) (hy : (y.length == 0) = false) (hsz : x.length + 2 ≤ sizeLine)
    (h : ∀ D t1 t2 t3 t4 t5 h' k, Fr h₀ L h' m → News h₀ L h' ((D, listOf [Value.str a1 t1, .str a2 t2, .str a3 t3, .str a4 t4, .str a5 t5].toArray 0) :: news) → (∀ p ∈ news, p.1 < D) → Q (.ref D) { s with heap := h', toks := k }) :
    wpAny (model prog w) A (call (.builtin "str.split") [.str x t, .str y u]) Q E s := by
  refine KSpl.split1 F N hy (fun D l h' k e' _ F' N' l1 => ?_) hsz
  rw [e] at e'
  obtain ⟨t1, l1', rfl, e1⟩ := KSpl.cons_of e'
  obtain ⟨t2, l2', rfl, e2⟩ := KSpl.cons_of e1
  obtain ⟨t3, l3', rfl, e3⟩ := KSpl.cons_of e2
  obtain ⟨t4, l4', rfl, e4⟩ := KSpl.cons_of e3
  obtain ⟨t5, l5', rfl, e5⟩ := KSpl.cons_of e4
  have := KSpl.nil_of e5
  subst this
  exact h D t1 t2 t3 t4 t5 h' k F' N' l1
end

theorem news_drop {h₀ h : Heap} {L : Addr} {news news' : List (Addr × Obj)} (N : News h₀ L h news') (hs : ∀ p ∈ news, p ∈ news') : News h₀ L h news := fun p hp => N p (hs p hp)
theorem sub_cons {q : Addr × Obj} {l l' : List (Addr × Obj)} (h : q ∈ l') (h2 : ∀ p ∈ l, p ∈ l') : ∀ p ∈ q :: l, p ∈ l' := fun p hp => by
  rcases List.mem_cons.mp hp with rfl | hp
  · exact h
  · exact h2 p hp
theorem sub_tail {q : Addr × Obj} {l l' : List (Addr × Obj)} (h2 : ∀ p ∈ l, p ∈ l') : ∀ p ∈ l, p ∈ q :: l' := fun p hp => List.mem_cons_of_mem _ (h2 p hp)
theorem allLt_all {d : Addr} : ∀ {l : List (Addr × Obj)}, AllLt d l → ∀ p ∈ l, p.1 < d
  | [], _, _, h => nomatch h
  | _ :: _, h, _, .head _ => h.1
  | _ :: _, h, _, .tail _ hp => allLt_all h.2 _ hp
theorem lt_cons {d : Addr} {q : Addr × Obj} {l : List (Addr × Obj)} (h : @LT.lt Nat _ q.1 d) (h2 : ∀ p ∈ l, p.1 < d) : ∀ p ∈ q :: l, p.1 < d := fun p hp => by
  rcases List.mem_cons.mp hp with rfl | hp
  · exact h
  · exact h2 p hp
noncomputable abbrev tupObj (vs : List Value) (n : Nat) : Obj := { cls := .type "tuple", data := .seq vs.toArray n }

local macro_rules | `(tactic| walk_at "mine sub") => `(tactic| first | exact fun _ h => h | (refine sub_cons (by k_mem) ?_; walk_at "mine sub") | (refine sub_tail ?_; walk_at "mine sub"))
local macro_rules | `(tactic| walk_at "mine drop") => `(tactic| (refine' news_drop ?nd1 ?nd2; (case nd1 => k_asm); (case nd2 => walk_at "mine sub")))
local macro_rules | `(tactic| walk_at "mine lt") => `(tactic| first | exact List.forall_mem_nil _ | exact allLt_all ‹_› | exact allLt_all (And.right ‹_ ∧ AllLt _ _›) | exact allLt_all (And.right (And.right ‹_ ∧ _ ∧ AllLt _ _›)) | exact allLt_all (And.right (And.right (And.right ‹_ ∧ _ ∧ _ ∧ AllLt _ _›))) | exact allLt_all (And.right (And.right (And.right (And.right ‹_ ∧ _ ∧ _ ∧ _ ∧ AllLt _ _›)))) | (refine lt_cons (by (try dsimp only); omega) ?_; walk_at "mine lt"))
local macro_rules | `(tactic| walk_at "ite") => `(tactic| (refine ite_not ?hno ?_; (case hno => first | with_reducible assumption | exact ne_self_false)))
local macro_rules | `(tactic| walk_at "call builtin:str.find") => `(tactic| k_dflt (first | (refine' find_is ?hfe ?_; (case hfe => assumption)) | (refine' find3_is ?hfe ?_; (case hfe => assumption))))
local macro_rules | `(tactic| walk_at "subscriptTail Name BinOp str int") => `(tactic| k_dflt (refine' item_is ?hie ?hi1 ?hi2 ?hi3 ?_; (case hie => assumption); (case hi1 => omega); (case hi2 => omega); (case hi3 => (exact fitsSsize_of (N := 9223372036854775808) (by omega) (by omega) (Int.le_refl _)))))
local macro_rules | `(tactic| walk_at "subscriptTail Name Slice str ref") => `(tactic| ((with_reducible rename Fr _ _ _ _ => F'); (with_reducible rename News _ _ _ _ => N'); k_dflt (first
  | (refine' slice_is (s := ⟨_, _, _, _, _⟩) ?hse F' N' ?hsz ?_; (case hse => assumption); (case hsz => size_fits); intro _ _ _ _ _)
  | (refine' slice_ns_is (s := ⟨_, _, _, _, _⟩) ?hse F' N' ?hsz ?_; (case hse => assumption); (case hsz => size_fits); intro _ _ _ _ _)
  | (refine' slice_sn_is (s := ⟨_, _, _, _, _⟩) ?hse F' N' ?hsz ?_; (case hse => assumption); (case hsz => size_fits); intro _ _ _ _ _))))
local macro_rules | `(tactic| walk_at "call builtin:str.split") => `(tactic| ((with_reducible rename Fr _ _ _ _ => F'); (with_reducible rename News _ _ _ _ => N'); k_dflt (refine' split5_is ?hse F' N' ?hy ?hsz ?_; (case hse => assumption); (case hy => assumption); (case hsz => size_fits); intro D' _ _ _ _ _ _ _ F' N' l1; (try k_lt l1))))

set_option maxHeartbeats 8000000 in
theorem parse_con {prog w mean mg mb} (S host M B e1 e2 e3 e5 : Str) (n l r : Int) (t t' t'' : Tok) (pa : Addr) (nn : Nat) (hn0 : 0 ≤ n) (hn1 : n < 10 ^ 10) (hS : S.length ≤ 100) (hB : B.length ≤ 100) (hM : (M.length == 0) = false)
   (h1 : Txt.slice S none (some 3) = Str.ofString "229")
   (h2 : Txt.find S (Str.ofString "(") = l) (hl0 : 0 ≤ l) (h3 : Txt.find3 S (Str.ofString ")") (l + 1) = r) (hr0 : l < r) (hr1 : r < S.length)
   (h4 : Txt.item S (l + 1) = M) (h5 : Txt.item S (r - 1) = M) (h6 : Txt.slice S (some (l + 1)) (some r) = B)
   (h7 : Txt.split B M = [e1, e2, e3, Str.ofString (toString n), e5]) (news) : Con prog w mean mg mb 108 [.str S t, .ref pa] ((pa, tupObj [Value.str host t', .int 21 t''] nn) :: news) 1 8 
     (fun r news' => ∃ a t₁ t₂ n', r = .ref a ∧ news' = (a, tupObj [Value.str host t₁, .int n t₂] n') :: (pa, tupObj [Value.str host t', .int 21 t''] nn) :: news ∧ ∀ p ∈ (pa, tupObj [Value.str host t', .int 21 t''] nn) :: news, p.1 < a) := by
  unfold Con
  refine rowSay ?_
  k_fill
  intro _
  intro dp un gd cn cs a ccd cl outer A₀ base h₀ L m s R Be F X N C0 T hk hd hu hret
  have hl1 : ¬ l < 0 := by omega
  have hr2 : ¬ r < 0 := by omega
  k_dflt cell_enter
  k_steps
  exact hret _ _ _ _ (by k_asm) (by walk_at "mine drop") ⟨_, _, _, _, rfl, rfl, by walk_at "mine lt"⟩
end Mine
end
open PySem PySem.W PyProof.Rows

section
open PySem PySem.W PyProof.Rows PySem.Spec PySem.Calls PySem.Builtin
namespace Mine
noncomputable abbrev strIt (x : Str) (t : Tok) (i : Nat) : Obj := { cls := .type "str_ascii_iterator", data := .fields #[.str x t, .int i 0] }
/-- a text's iterator that has handed out i signs -/
noncomputable def StrIt (o : Obj) (x : Str) (t : Tok) (i : Nat) : Prop := o.cls = .type "str_ascii_iterator" ∧ o.data = .fields #[.str x t, .int i 0]
section
variable {prog : Program} {w : World} {A : Around} {E : Value → Shared → Prop} {s : Shared} {h₀ : Heap} {L : Addr} {m : PySem.Str → Option Value} {news : List (Addr × Obj)} {x : PySem.Str} {t : Tok} {Q : Value → Shared → Prop}
theorem iter_str (hx : x.cps.all (· < 128) = true) (F : Fr h₀ L s.heap m) (N : News h₀ L s.heap news)
    (h : ∀ (I : Addr) h' o, StrIt o x t 0 → Fr h₀ L h' m → News h₀ L h' ((I, o) :: news) → (∀ p ∈ news, p.1 < I) → Q (.ref I) { s with heap := h' }) :
    wpAny (model prog w) A (call (.builtin "iter") [.str x t]) Q E s := by
  refine call_function_entry (by decide +kernel) (by decide +kernel) kdk_entry_iter (kdk_args_iter _) ?_
  unfold Builtin.«iter»
  refine wpAny_bind (m := someArgs "iter" 1 2 _) (wpAny_of_eq (a := [Value.str x t]) (by first | rfl | kernel_rfl!) ?_)
  show wpAny _ _ (pyIter (.str x t) >>= _) _ _ _
  refine wpAny_bind (wpAny_pyIter_ascii hx ?_)
  exact wpAny_pure ⟨_, rfl, h _ _ _ ⟨rfl, rfl⟩ (F.push _) (News.push F N _ rfl) fun q hq => Heap.lt_size (N q hq).1⟩

/-- next(it, dflt) over a text's iterator: one sign more -/
theorem next_str {it : Addr} {i c : Nat} {dflt : Value} {o : Obj} {g : Obj → List (Addr × Obj)} (hx : x.cps[i]? = some c) (hi : StrIt o x t i) (F : Fr h₀ L s.heap m) (N : News h₀ L s.heap news) (U : UpdF it o news g)
    (h : ∀ h' o' tk t', StrIt o' x t (i + 1) → Fr h₀ L h' m → News h₀ L h' (g o') → Q (.str ⟨#[c]⟩ t') { s with heap := h', toks := tk }) :
    wpAny (model prog w) A (call (.builtin "next") [.ref it, dflt]) Q E s := by
  obtain ⟨pre, post, hl, hg, a, b⟩ := U.split
  have hmem : (it, o) ∈ news := by rw [hl]; exact List.mem_append_right _ (.head _)
  have hm := N (it, _) hmem
  have hit : s.heap.IsStrIter it "str_ascii_iterator" x t i := ⟨_, hm.1, hi.1, hi.2⟩
  refine call_function_entry (by decide +kernel) (by decide +kernel) kdk_entry_next (kdk_args_next2 _ _) ?_
  unfold Builtin.«next»
  refine wpAny_bind (m := someArgs "next" 1 2 _) (wpAny_of_eq (a := [Value.ref it, dflt]) (by first | rfl | kernel_rfl!) ?_)
  dsimp only
  refine wpAny_bind (wpAny_specialOf (name := PySem.Str.ofString "__next__") hit.typeIs PySem.F.slot_str_ascii_iterator_next.lookup ?_)
  refine wpAny_ite_split (fun hab => absurd hab (by decide)) (fun _ => ?_)
  refine wpAny_bind (wpAny_pyNext_ascii_item hit hx fun h' hit' hs => ?_)
  obtain ⟨o', ho', hc', hd'⟩ := hit'
  exact wpAny_pure ⟨_, rfl, h h' o' _ _ ⟨hc', hd'⟩ (F.change hs hm.2.1 hm.2.2) (hg o' ▸ (show News h₀ L s.heap (pre ++ (it, o) :: post) from hl ▸ N).setIn a b hs ho')⟩

/-- .. and at its end -/
theorem next_str_end {it : Addr} {i : Nat} {dflt : Value} {o : Obj} {pre post : List (Addr × Obj)} (hh : A.handled = none) (hx : x.cps[i]? = none) (hi : StrIt o x t i) (F : Fr h₀ L s.heap m) (N : News h₀ L s.heap (pre ++ (it, o) :: post))
    (ha : ∀ p ∈ pre, p.1 ≠ it) (hb : ∀ p ∈ post, p.1 ≠ it)
    (h : ∀ h', Fr h₀ L h' m → News h₀ L h' (pre ++ post) → Q dflt { s with heap := h' }) :
    wpAny (model prog w) A (call (.builtin "next") [.ref it, dflt]) Q E s := by
  have hm := N (it, o) (List.mem_append_right _ (.head _))
  have hit : s.heap.IsStrIter it "str_ascii_iterator" x t i := ⟨_, hm.1, hi.1, hi.2⟩
  refine call_function_entry (by decide +kernel) (by decide +kernel) kdk_entry_next (kdk_args_next2 _ _) ?_
  unfold Builtin.«next»
  refine wpAny_bind (m := someArgs "next" 1 2 _) (wpAny_of_eq (a := [Value.ref it, dflt]) (by first | rfl | kernel_rfl!) ?_)
  dsimp only
  refine wpAny_bind (wpAny_specialOf (name := PySem.Str.ofString "__next__") hit.typeIs PySem.F.slot_str_ascii_iterator_next.lookup ?_)
  refine wpAny_ite_split (fun hab => absurd hab (by decide)) (fun _ => ?_)
  refine wpAny_bind (wpAny_pyNext_ascii_end hh hit hx fun h' hs => ?_)
  obtain ⟨oL, es, ep, hL, r⟩ := F.ns
  refine wpAny_pure ⟨_, rfl, h h' ⟨⟨oL, es, ep, hs _ _ (Ne.symm hm.2.1) hL, r⟩, fun b ob e => hs b ob (fun q => ?_) (F.keep b ob e), F.above⟩ fun p hp => ?_⟩
  · rw [q, hm.2.2] at e; cases e
  · rcases List.mem_append.mp hp with hp | hp
    · have := N p (List.mem_append_left _ hp); exact ⟨hs _ _ (ha p hp) this.1, this.2⟩
    · have := N p (List.mem_append_right _ (.tail _ hp)); exact ⟨hs _ _ (hb p hp) this.1, this.2⟩
end
theorem allNe_of_lt {d D : Addr} {l : List (Addr × Obj)} (h : AllLt D l) (hd : @LE.le Nat _ D d) : ∀ p ∈ l, p.1 ≠ d := fun p hp e => by
  have := allLt_all h p hp
  rw [e] at this
  exact absurd (Nat.lt_of_lt_of_le this hd) (Nat.lt_irrefl _)
theorem allNe_of_gt {d D : Addr} {l : List (Addr × Obj)} (h : AllLt D l) (hd : @LT.lt Nat _ D d) : ∀ p ∈ l, p.1 ≠ d := allNe_of_lt h (Nat.le_of_lt hd)
end Mine
end

section
open PySem PySem.W PyProof.Rows PySem.Builtin PySem.Builtin.Str
namespace Mine
theorem str_ext {a b : Str} (h : a.cps.toList = b.cps.toList) : a = b := Str.ext' (Array.toList_inj.mp h)
theorem str_len (x : Str) : x.length = x.cps.toList.length := by simp [Str.length]
theorem at_one {x : Str} {c i : Nat} : StrLaws.At x ⟨#[c]⟩ x.length i ↔ x.cps.toList[i]? = some c := StrLaws.subAt_one x c i
theorem not_mem_get {a : List Nat} {c i : Nat} (h : c ∉ a) : a[i]? ≠ some c := fun e => h (List.mem_of_getElem? e)
theorem find_one {x : Str} {a b : List Nat} {c : Nat} (e : x.cps.toList = a ++ c :: b) (h : c ∉ a) : Txt.find x ⟨#[c]⟩ = a.length := by
  have hat : StrLaws.At x ⟨#[c]⟩ x.length a.length := at_one.mpr (by rw [e]; simp)
  unfold Txt.find
  rcases StrLaws.occ_head x ⟨#[c]⟩ 1 (by omega) with ⟨h0, hn⟩ | ⟨i, r, h0, hi, hn⟩
  · exact absurd hat (hn _)
  · rw [h0]
    have h1 : ¬ a.length < i := fun hl => hn _ hl hat
    have h2 := at_one.mp hi
    rw [e] at h2
    by_cases hl : i < a.length
    · rw [List.getElem?_append_left hl] at h2
      exact absurd h2 (not_mem_get h)
    · have : i = a.length := by omega
      simp [this]
theorem find3_one {x : Str} {p a b : List Nat} {c : Nat} (e : x.cps.toList = p ++ (a ++ c :: b)) (h : c ∉ a) : Txt.find3 x ⟨#[c]⟩ (p.length : Int) = (p.length : Int) + a.length := by
  have hlen : p.length ≤ x.length := by rw [str_len, e]; simp
  have hfrom : PySem.fromIndex x.length (p.length : Int) = p.length := by
    unfold PySem.fromIndex
    rw [if_neg (by omega)]
    omega
  have hat : StrLaws.At x ⟨#[c]⟩ x.length (p.length + a.length) := at_one.mpr (by rw [e]; simp)
  unfold Txt.find3
  rw [hfrom]
  rcases StrLaws.occ_head_from x ⟨#[c]⟩ p.length 1 (by omega) with ⟨h0, hn⟩ | ⟨i, r, h0, hlo, hi, hn⟩
  · exact absurd hat (hn _ (by omega))
  · rw [h0]
    have h1 : ¬ p.length + a.length < i := fun hl => hn _ (by omega) hl hat
    have h2 := at_one.mp hi
    rw [e, List.getElem?_append_right hlo] at h2
    by_cases hl : i - p.length < a.length
    · rw [List.getElem?_append_left hl] at h2
      exact absurd h2 (not_mem_get h)
    · have : i = p.length + a.length := by omega
      simp [this]
theorem item_at {x : Str} {i c : Nat} (e : x.cps.toList[i]? = some c) : Txt.item x (i : Int) = ⟨#[c]⟩ := by
  have e' : x.cps[i]? = some c := by simpa using e
  have hl : i < x.length := by
    have := (List.getElem?_eq_some_iff.mp e).1
    rw [str_len]; exact this
  have : seqIndex? (i : Int) x.length = some i := by
    unfold seqIndex?
    simp
    omega
  unfold Txt.item Txt.charAt
  rw [this]
  simp [e']
theorem slice_at {x y : Str} {a b : Nat} (hab : a ≤ b) (hb : b ≤ x.length) (e : (x.cps.toList.drop a).take (b - a) = y.cps.toList) : Txt.slice x (some (a : Int)) (some (b : Int)) = y := by
  have h := StrLaws.sliced_plain x hab hb
  unfold Txt.slice
  split
  · rename_i hc
    have hl : (strSliceIndices (some (a : Int)) (some (b : Int)) 1 x.length).length = x.length := by simpa using hc
    rw [StrLaws.strSliceIndices_plain hab hb] at hl
    have hl' : b - a = x.length := by simpa using hl
    apply str_ext
    have h0 : a = 0 := by omega
    subst h0
    rw [← e, List.drop_zero, List.take_of_length_le (by rw [← str_len]; omega)]
  · apply str_ext
    rw [← e]
    exact congrArg (fun l => (List.toArray l).toList) h
theorem slice_upto {x y : Str} {b : Nat} (hb : b ≤ x.length) (e : x.cps.toList.take b = y.cps.toList) : Txt.slice x none (some (b : Int)) = y := by
  have : Txt.slice x none (some (b : Int)) = Txt.slice x (some ((0 : Nat) : Int)) (some (b : Int)) := by
    have e1 : max (0 : Int) (min ((0 : Nat) : Int) (x.length : Int)) = 0 := by omega
    have e2 : ¬ (((0 : Nat) : Int) < 0) := by omega
    unfold Txt.slice strSliceIndices
    simp only [e1, e2, if_false, show ((1 : Int) > 0) = True from by simp, if_true]
  rw [this]
  exact slice_at (Nat.zero_le _) hb (by simpa using e)
theorem slice_from {x y : Str} {a : Nat} (ha : a ≤ x.length) (e : x.cps.toList.drop a = y.cps.toList) : Txt.slice x (some (a : Int)) none = y := by
  have : Txt.slice x (some (a : Int)) none = Txt.slice x (some (a : Int)) (some (x.length : Int)) := by
    have e1 : max (0 : Int) (min (x.length : Int) (x.length : Int)) = x.length := by omega
    have e2 : ¬ ((x.length : Int) < 0) := by omega
    unfold Txt.slice strSliceIndices
    simp only [e1, e2, if_false, show ((1 : Int) > 0) = True from by simp, if_true]
  rw [this]
  exact slice_at ha (Nat.le_refl _) (by rw [← e, List.take_of_length_le]; rw [List.length_drop, ← str_len]; omega)

/-- a text glued of pieces that lack the sign: the pieces are known -/
theorem join_inj (c : Nat) : ∀ (xs ys : List Str), xs ≠ [] → ys ≠ [] → (∀ x ∈ xs, c ∉ x.cps.toList) → (∀ y ∈ ys, c ∉ y.cps.toList) → Str.join ⟨#[c]⟩ xs = Str.join ⟨#[c]⟩ ys → xs = ys
  | [], _, h, _, _, _, _ => absurd rfl h
  | _, [], _, h, _, _, _ => absurd rfl h
  | [x], [y], _, _, _, _, e => by
    have : x = y := e
    rw [this]
  | [x], y :: z :: r, _, _, hx, _, e => by
    exfalso
    have e' : x = y ++ ⟨#[c]⟩ ++ Str.join ⟨#[c]⟩ (z :: r) := e
    refine hx x (List.mem_cons_self ..) ?_
    rw [e']; simp [Str.cps_append]
  | x :: z :: r, [y], _, _, _, hy, e => by
    exfalso
    have e' : x ++ ⟨#[c]⟩ ++ Str.join ⟨#[c]⟩ (z :: r) = y := e
    refine hy y (List.mem_cons_self ..) ?_
    rw [← e']; simp [Str.cps_append]
  | x :: x' :: r, y :: y' :: r', _, _, hx, hy, e => by
    have e' : x ++ ⟨#[c]⟩ ++ Str.join ⟨#[c]⟩ (x' :: r) = y ++ ⟨#[c]⟩ ++ Str.join ⟨#[c]⟩ (y' :: r') := e
    have e2 : x.cps.toList ++ c :: (Str.join ⟨#[c]⟩ (x' :: r)).cps.toList = y.cps.toList ++ c :: (Str.join ⟨#[c]⟩ (y' :: r')).cps.toList := by
      have := congrArg (fun s : Str => s.cps.toList) e'
      simpa [Str.cps_append] using this
    have split : ∀ (a b u v : List Nat), c ∉ a → c ∉ b → a ++ c :: u = b ++ c :: v → a = b ∧ u = v := by
      intro a
      induction a with
      | nil =>
        intro b u v _ hb h
        cases b with
        | nil => simp at h; exact ⟨rfl, h⟩
        | cons d b => simp at h; exact absurd (by rw [← h.1]; exact List.mem_cons_self ..) hb
      | cons d a ih =>
        intro b u v ha hb h
        cases b with
        | nil => simp at h; exact absurd (by rw [h.1]; exact List.mem_cons_self ..) ha
        | cons d' b =>
          simp only [List.cons_append, List.cons.injEq] at h
          obtain ⟨h1, h2⟩ := ih b u v (fun m => ha (List.mem_cons_of_mem _ m)) (fun m => hb (List.mem_cons_of_mem _ m)) h.2
          exact ⟨by rw [h.1, h1], h2⟩
    obtain ⟨h1, h2⟩ := split _ _ _ _ (hx x (List.mem_cons_self ..)) (hy y (List.mem_cons_self ..)) e2
    have ih := join_inj c (x' :: r) (y' :: r') (by simp) (by simp) (fun p hp => hx p (List.mem_cons_of_mem _ hp)) (fun p hp => hy p (List.mem_cons_of_mem _ hp)) (str_ext h2)
    rw [str_ext h1, ih]
theorem split_ne (x y : Str) : Txt.split x y ≠ [] := by
  unfold Txt.split
  split
  · simp
  · split
    · simp
    · rw [StrLaws.partsBetween_eq]
      obtain ⟨p, r, e⟩ := StrLaws.partsFrom_ne x y.length 0 (occurrences x y 0 x.length (x.length + 1))
      rw [e]; simp
theorem split_is {x : Str} {c : Nat} {ys : List Str} (hne : ys ≠ []) (hfree : ∀ y ∈ ys, c ∉ y.cps.toList) (e : Str.join ⟨#[c]⟩ ys = x) : Txt.split x ⟨#[c]⟩ = ys :=
  join_inj c _ _ (split_ne _ _) hne (StrLaws.split_free x c) hfree (by rw [StrLaws.join_split, e])
end Mine
end

section
open PySem PySem.W PyProof.Rows PySem.Builtin PySem.Builtin.Str
namespace Mine
noncomputable def digs (n : Int) : List Nat := (Str.ofString (toString n)).cps.toList
theorem digs_range {n : Int} (h : 0 ≤ n) : ∀ c ∈ digs n, 48 ≤ c ∧ c ≤ 57 := by
  obtain ⟨m, rfl⟩ := Int.eq_ofNat_of_zero_le h
  intro c hc
  unfold digs at hc
  rw [KIN.signs_num] at hc
  obtain ⟨ch, hch, e⟩ := List.mem_map.mp hc
  have r := digit_range (Nat.isDigit_of_mem_toDigits (by decide) (by decide) hch)
  rw [← e]
  exact r
noncomputable def mk (n : Int) : Nat := (Txt.charAt (Str.ofString "|!x") (n.fmod 3)).getD 0
theorem mark_eq (n : Int) : mark n = ⟨#[mk n]⟩ := rfl
theorem mk_cases (n : Int) : mk n = 124 ∨ mk n = 33 ∨ mk n = 120 := by
  have h0 := fmod_lo n (show (0 : Int) < 3 by decide)
  have h1 := fmod_hi n (show (0 : Int) < 3 by decide)
  unfold mk
  have : n.fmod 3 = 0 ∨ n.fmod 3 = 1 ∨ n.fmod 3 = 2 := by omega
  rcases this with h | h | h <;> rw [h]
  · exact .inl (by decide +kernel)
  · exact .inr (.inl (by decide +kernel))
  · exact .inr (.inr (by decide +kernel))
theorem told_list (n : Int) : (told n).cps.toList = 40 :: mk n :: mk n :: mk n :: (digs n ++ [mk n, 41]) := by
  have e1 : Str.ofString "(" = ⟨#[40]⟩ := by decide +kernel
  have e2 : Str.ofString ")" = ⟨#[41]⟩ := by decide +kernel
  have e3 : (Txt.mul (mark n) 3).cps.toList = [mk n, mk n, mk n] := by
    unfold Txt.mul
    rw [mark_eq]
    simp [Str.length]
  unfold told
  simp only [Str.cps_append, Array.toList_append, e1, e2, e3]
  rw [mark_eq]
  simp [digs]
theorem not_digs {n : Int} (h : 0 ≤ n) {c : Nat} (hc : c < 48 ∨ 57 < c) : c ∉ digs n := fun m => by
  have := digs_range h c m
  omega

theorem parse_pre {prog w mean mg mb} {x host : Str} {t t' t'' : Tok} {pa : Addr} {nn : Nat} {n : Int} {pre rest : List Nat} (hn0 : 0 ≤ n) (hn1 : n < 10 ^ 10) (hx : x.length ≤ 100) (e : x.cps.toList = pre ++ ((told n).cps.toList ++ rest)) (hp : pre = [50, 50, 57] ∨ pre = [50, 50, 57, 32]) (news) :
    Con prog w mean mg mb 108 [.str x t, .ref pa] ((pa, tupObj [Value.str host t', .int 21 t''] nn) :: news) 1 8 
     (fun r news' => ∃ a t₁ t₂ n', r = .ref a ∧ news' = (a, tupObj [Value.str host t₁, .int n t₂] n') :: (pa, tupObj [Value.str host t', .int 21 t''] nn) :: news ∧ ∀ p ∈ (pa, tupObj [Value.str host t', .int 21 t''] nn) :: news, p.1 < a) := by
  have hm := mk_cases n
  have e1 : Str.ofString "(" = ⟨#[40]⟩ := by decide +kernel
  have e2 : Str.ofString ")" = ⟨#[41]⟩ := by decide +kernel
  have e3 : Str.ofString "229" = ⟨#[50, 50, 57]⟩ := by decide +kernel
  rw [told_list] at e
  have hxl : x.cps.toList.length = pre.length + (6 + (digs n).length + rest.length) := by rw [e]; simp; omega
  have hx2 := str_len x
  have hdl : (digs n).length = (Str.ofString (toString n)).length := by simp [digs, Str.length]
  have hd := num_len hn0 hn1
  have np : 40 ∉ pre := by rcases hp with rfl | rfl <;> decide
  have hpl : 3 ≤ pre.length := by rcases hp with rfl | rfl <;> decide
  have n41 : 41 ∉ mk n :: mk n :: mk n :: (digs n ++ [mk n]) := by
    have := not_digs hn0 (c := 41) (by omega)
    simp only [List.mem_cons, List.mem_append, List.not_mem_nil, or_false]
    rintro (h | h | h | h | h)
    · omega
    · omega
    · omega
    · exact this h
    · omega
  have nm : mk n ∉ digs n := not_digs hn0 (by omega)
  refine parse_con x host (mark n) ⟨(mk n :: mk n :: mk n :: (digs n ++ [mk n])).toArray⟩ ⟨#[]⟩ ⟨#[]⟩ ⟨#[]⟩ ⟨#[]⟩ n (pre.length : Int) ((pre.length + (5 + (digs n).length) : Nat) : Int) t t' t'' pa nn hn0 hn1 hx ?_ ?_ ?_ ?_ ?_ ?_ ?_ ?_ ?_ ?_ ?_ ?_ news
  · simp [Str.length]; omega
  · rfl
  · rw [e3]
    refine slice_upto (b := 3) (by omega) ?_
    rw [e]
    rcases hp with rfl | rfl <;> simp
  · rw [e1]; exact find_one e np
  · omega
  · rw [e2]
    have h := find3_one (x := x) (p := pre ++ [40]) (a := mk n :: mk n :: mk n :: (digs n ++ [mk n])) (b := rest) (c := 41) (by rw [e]; simp) n41
    have hl : ((pre ++ [40]).length : Int) = (pre.length : Int) + 1 := by simp
    rw [hl] at h
    rw [h]
    simp
    omega
  · omega
  · omega
  · rw [mark_eq]
    have h := item_at (x := x) (i := pre.length + 1) (c := mk n) (by rw [e]; simp)
    simpa using h
  · rw [mark_eq]
    have h := item_at (x := x) (i := pre.length + (4 + (digs n).length)) (c := mk n) (by
      rw [e, List.getElem?_append_right (by omega)]
      simp [show pre.length + (4 + (digs n).length) - pre.length = (digs n).length + 4 from by omega])
    have hl : ((pre.length + (5 + (digs n).length) : Nat) : Int) - 1 = ((pre.length + (4 + (digs n).length) : Nat) : Int) := by omega
    rw [hl]; exact h
  · have h := slice_at (x := x) (y := ⟨(mk n :: mk n :: mk n :: (digs n ++ [mk n])).toArray⟩) (a := pre.length + 1) (b := pre.length + (5 + (digs n).length)) (by omega) (by omega) (by
      rw [e, List.drop_append]
      simp [show pre.length + (5 + (digs n).length) - (pre.length + 1) = (digs n).length + 4 from by omega, List.take_append, List.take_of_length_le (show (digs n).length ≤ (digs n).length + 1 from by omega), List.drop_of_length_le (show pre.length ≤ pre.length + 1 from by omega)])
    simpa using h
  · rw [mark_eq]
    refine split_is (by simp) ?_ ?_
    · intro y hy
      simp only [List.mem_cons, List.not_mem_nil, or_false] at hy
      rcases hy with h | h | h | h | h
      · subst h; simp
      · subst h; simp
      · subst h; simp
      · rw [h]; exact nm
      · subst h; simp
    · apply str_ext
      simp [Str.join, Str.cps_append, digs]
end Mine
end

section
open PySem PySem.W PyProof.Rows PySem.Spec PySem.Calls PySem.Builtin
namespace Mine
theorem start_B3 : True := by
  w_top off
  trivial
theorem word_list (u l : Int) : (word u l).cps.toList = [50, 50, 57, 32] ++ ((told u).cps.toList ++ (told l).cps.toList) := by
  have e1 : Str.ofString "229 " = ⟨#[50, 50, 57, 32]⟩ := by decide +kernel
  unfold word
  simp only [Str.cps_append, Array.toList_append, e1]
  simp
theorem two_list (l : Int) : (Str.ofString "229" ++ told l).cps.toList = [50, 50, 57] ++ ((told l).cps.toList ++ []) := by
  have e1 : Str.ofString "229" = ⟨#[50, 50, 57]⟩ := by decide +kernel
  simp only [Str.cps_append, Array.toList_append, e1]
  simp
theorem find_cut {x y : Str} {A : List Nat} {c : Nat} (e : x.cps.toList = A ++ c :: y.cps.toList) (h : c ∉ A) : ∃ k : Int, Txt.find x ⟨#[c]⟩ = k ∧ Txt.slice x (some (k + 1)) none = y := by
  refine ⟨_, find_one e h, ?_⟩
  have hl : A.length + 1 ≤ x.length := by rw [str_len, e]; simp
  have := slice_from (x := x) (y := y) (a := A.length + 1) hl (by rw [e, List.drop_append]; simp)
  simpa using this
theorem word_cut {u l : Int} (h0 : 0 ≤ u) : ∃ k : Int, Txt.find (word u l) (Str.ofString ")") = k ∧ Txt.slice (word u l) (some (k + 1)) none = told l := by
  have e2 : Str.ofString ")" = ⟨#[41]⟩ := by decide +kernel
  have e := word_list u l
  rw [told_list] at e
  have hm := mk_cases u
  have n41 : 41 ∉ [50, 50, 57, 32] ++ 40 :: mk u :: mk u :: mk u :: (digs u ++ [mk u]) := by
    have := not_digs h0 (c := 41) (by omega)
    simp only [List.mem_cons, List.mem_append, List.not_mem_nil, or_false]
    rintro ((h | h | h | h) | h | h | h | h | (h | h))
    all_goals first | exact this h | omega
  rw [e2]
  exact find_cut (by rw [e]; simp) n41
theorem parse_word {prog w mean mg mb} {u l : Int} {host : Str} {t t' t'' : Tok} {pa : Addr} {nn : Nat} (hu0 : 0 ≤ u) (hu1 : u < 10 ^ 10) (hl0 : 0 ≤ l) (hl1 : l < 10 ^ 10) (news) :
    Con prog w mean mg mb 108 [.str (word u l) t, .ref pa] ((pa, tupObj [Value.str host t', .int 21 t''] nn) :: news) 1 8 
     (fun r news' => ∃ a t₁ t₂ n', r = .ref a ∧ news' = (a, tupObj [Value.str host t₁, .int u t₂] n') :: (pa, tupObj [Value.str host t', .int 21 t''] nn) :: news ∧ ∀ p ∈ (pa, tupObj [Value.str host t', .int 21 t''] nn) :: news, p.1 < a) :=
  parse_pre hu0 hu1 (Nat.le_trans (word_len hu0 hu1 hl0 hl1) (by omega)) (word_list u l) (.inr rfl) news
theorem parse_told {prog w mean mg mb} {l : Int} {host : Str} {t t' t'' : Tok} {pa : Addr} {nn : Nat} (hl0 : 0 ≤ l) (hl1 : l < 10 ^ 10) (news) :
    Con prog w mean mg mb 108 [.str (Str.ofString "229" ++ told l) t, .ref pa] ((pa, tupObj [Value.str host t', .int 21 t''] nn) :: news) 1 8 
     (fun r news' => ∃ a t₁ t₂ n', r = .ref a ∧ news' = (a, tupObj [Value.str host t₁, .int l t₂] n') :: (pa, tupObj [Value.str host t', .int 21 t''] nn) :: news ∧ ∀ p ∈ (pa, tupObj [Value.str host t', .int 21 t''] nn) :: news, p.1 < a) := by
  refine parse_pre hl0 hl1 ?_ (two_list l) (.inl rfl) news
  have := told_len hl0 hl1
  have e3 : (Str.ofString "229").length = 3 := by decide +kernel
  rw [Str.length_append, e3]; omega

local macro_rules | `(tactic| walk_at "mine lt") => `(tactic| first | exact List.forall_mem_nil _ | exact allLt_all ‹_› | exact allLt_all (And.right ‹_ ∧ AllLt _ _›) | exact allLt_all (And.right (And.right ‹_ ∧ _ ∧ AllLt _ _›)) | exact allLt_all (And.right (And.right (And.right ‹_ ∧ _ ∧ _ ∧ AllLt _ _›))) | exact allLt_all (And.right (And.right (And.right (And.right ‹_ ∧ _ ∧ _ ∧ _ ∧ AllLt _ _›)))) | (refine lt_cons (by (try dsimp only); omega) ?_; walk_at "mine lt"))
theorem drop35 {h₀ h : Heap} {L : Addr} {a b c d e : Addr × Obj} {r : List (Addr × Obj)} (N : News h₀ L h (a :: b :: c :: d :: e :: r)) : News h₀ L h (a :: b :: d :: r) :=
  fun p hp => N p (by
    simp only [List.mem_cons] at hp ⊢
    rcases hp with h | h | h | h <;> simp [h])
local macro_rules | `(tactic| walk_at "mine sub") => `(tactic| first | exact fun _ h => h | (refine sub_cons (by k_mem) ?_; walk_at "mine sub") | (refine sub_tail ?_; walk_at "mine sub"))
local macro_rules | `(tactic| walk_at "mine drop") => `(tactic| (refine' news_drop ?nd1 ?nd2; (case nd1 => k_asm); (case nd2 => walk_at "mine sub")))
local macro_rules | `(tactic| k_room) => `(tactic| ktr_room)
local macro_rules | `(tactic| walk_at "call builtin:str.find") => `(tactic| k_dflt (first | (refine' find_is ?hfe ?_; (case hfe => assumption))))
local macro_rules | `(tactic| walk_at "subscriptTail Name Slice str ref") => `(tactic| ((with_reducible rename Fr _ _ _ _ => F'); (with_reducible rename News _ _ _ _ => N'); k_dflt (refine' slice_sn_is (s := ⟨_, _, _, _, _⟩) ?hse F' N' ?hsz ?_; (case hse => assumption); (case hsz => size_fits); intro _ _ _ _ _)))
local macro_rules | `(tactic| walk_at "call ref") => `(tactic| (k_here; (first
  | ((with_reducible show wpAny _ _ (call (Value.ref 108) [Value.str (word _ _) _, _]) _ _ _); k_dflt (refine' Con.use (parse_word (by assumption) (by assumption) (by assumption) (by assumption) _) (by k_asm) (by k_asm) (by k_asm) (by k_asm) (by assumption) (by k_asm) (by first | exact rfl | assumption) (by ktr_room) (by ktr_units) ?_))
  | ((with_reducible show wpAny _ _ (call (Value.ref 108) [Value.str (HAppend.hAppend (Str.ofString "229") (told _)) _, _]) _ _ _); k_dflt (refine' Con.use (parse_told (by assumption) (by assumption) _) (by k_asm) (by k_asm) (by k_asm) (by k_asm) (by assumption) (by k_asm) (by first | exact rfl | assumption) (by ktr_room) (by ktr_units) ?_))); intro r9 n9 h9 tk9 F9 N9 p9; obtain ⟨a9, t9, t8, m9, e9, e8, l9⟩ := p9; subst e9 e8; (try k_lt l9); (try dsimp only); (try k_fold)))

set_option maxHeartbeats 400000 in
theorem pair_con {prog w mean mg mb} (u l : Int) (t : Tok) (hu0 : 0 ≤ u) (hu1 : u < 10 ^ 10) (hl0 : 0 ≤ l) (hl1 : l < 10 ^ 10) (news) :
    Con prog w mean mg mb 151 [.str (word u l) t] news 2 16 (fun r news' => ∃ a b c t1 t2 t3 t4 n1 n2 n3, r = .ref a ∧ news' = (a, tupObj [.ref b, .ref c] n1) :: (c, tupObj [Value.str (Str.ofString "two") t1, .int l t2] n2) :: (b, tupObj [Value.str (Str.ofString "one") t3, .int u t4] n3) :: news ∧
      (∀ p ∈ news, p.1 < b) ∧ @LT.lt Nat _ b c ∧ @LT.lt Nat _ c a) := by
  unfold Con
  refine rowSay ?_
  k_fill
  intro _
  intro dp un gd cn cs a ccd cl outer A₀ base h₀ L m s R B F X N C0 T hk hd hu hret
  obtain ⟨k, hk1, hk2⟩ := word_cut (l := l) hu0
  have hwl := word_len hu0 hu1 hl0 hl1
  have htl := told_len hl0 hl1
  k_dflt cell_enter
  k_steps
  (rename News _ _ _ _ => N9)
  refine hret _ _ _ _ (by k_asm) (drop35 N9) ⟨_, _, _, _, _, _, _, _, _, _, rfl, rfl, ?_, ?_, ?_⟩
  · walk_at "mine lt"
  · omega
  · omega
end Mine
end

section
open PySem PySem.W PyProof.Rows PySem.Spec PySem.Calls PySem.Builtin
namespace Mine
theorem start_G1 : True := by
  w_top off
  trivial
local macro_rules | `(tactic| k_all) => `(tactic| first | assumption | (refine' allNe_of_lt ?h9 ?e9; (case h9 => assumption); (case e9 => omega)))
local macro_rules | `(tactic| k_room) => `(tactic| ktr_room)
section
variable {prog : Program} {w : World} {A : Around} {E : Value → Shared → Prop} {s : Shared} {h₀ : Heap} {L D : Addr} {m : PySem.Str → Option Value} {news news' : List (Addr × Obj)} {vs q : List Value} {y : Value} {n : Nat} {u : Tok}
theorem truthy_lst {Q : Bool → Shared → Prop} (N : News h₀ L s.heap news) (hm : (D, W.listOf vs.toArray n) ∈ news) (hz : vs.length ≤ 1000)
    (h : Q (!vs.isEmpty) { s with toks := s.toks + 1 + 1 }) : wpAny (model prog w) A (truthy (.ref D)) Q E s :=
  kgr_truthy N hm rfl rfl (by omega) h
theorem pop0 {Q : Value → Shared → Prop} (F : Fr h₀ L s.heap m) (N : News h₀ L s.heap news) (U : Upd D (W.listOf (y :: q).toArray n) (W.listOf q.toArray (n + 1)) news news') (hz : q.length ≤ 1000)
    (h : ∀ h', Fr h₀ L h' m → News h₀ L h' news' → Q y { s with heap := h' }) : wpAny (model prog w) A (call (.builtin "list.pop") [.ref D, .int 0 u]) Q E s :=
  kl_popAt (p := []) (q := q) (k := 0) F N (by decide) (by simp [seqIndex?]) rfl U (by simp only [List.length_cons]; show q.length + 1 ≤ 2 ^ 24; omega) h
end
local macro_rules | `(tactic| walk_at "truthy ref") => `(tactic| (k_here; (with_reducible show wpAny _ _ (truthy (Value.ref _)) _ _ _); k_dflt (refine' truthy_lst ?N ?hm ?hz ?_; (case N => k_asm); (case hm => k_mem); (case hz => (try simp only [List.length_cons]); omega); (try simp only [List.isEmpty_cons, List.isEmpty_nil, Bool.not_false, Bool.not_true]))))
local macro_rules | `(tactic| walk_at "call builtin:list.pop") => `(tactic| (k_here; (with_reducible show wpAny _ _ (call (Value.builtin _) [Value.ref _, Value.int _ _]) _ _ _); k_dflt (refine' pop0 ?F ?N ?U ?hz ?_; (case F => k_asm); (case N => k_asm); (case U => k_upd); (case hz => omega)); (intro h' F' N'; (try dsimp only [List.nil_append, List.cons_append] at N'))))

noncomputable abbrev lexDict (w : World) (ln : Int) (sx lp : Addr) (t1 t2 t3 t4 t5 t6 : Tok) : Obj := dictOf
  [{ hash := PyData.keyHash w.params (Str.ofString "lineno"), key := Value.str (Str.ofString "lineno") t1, val := Value.int ln t2 },
   { hash := PyData.keyHash w.params (Str.ofString "instream"), key := Value.str (Str.ofString "instream") t3, val := Value.ref sx },
   { hash := PyData.keyHash w.params (Str.ofString "whitespace"), key := Value.str (Str.ofString "whitespace") t4, val := Value.str (Str.ofString "\n\t\x0d ") t5 },
   { hash := PyData.keyHash w.params (Str.ofString "pushback"), key := Value.str (Str.ofString "pushback") t6, val := Value.ref lp }] 4

set_option maxHeartbeats 8000000 in
theorem get_push_con {prog w mean mg mb} (y : Value) (ws : List Value) (hws : ws.length ≤ 100) (n : Nat) (lx ld lp sx : Addr) (ln : Int) (t1 t2 t3 t4 t5 t6) (h1 : @LT.lt Nat _ ld lx) (h2 : @LT.lt Nat _ lx lp) (news) (hlp : ∀ p ∈ news, p.1 ≠ lp) : 
  Con prog w mean mg mb 42 [.ref lx] ((lp, W.listOf (y :: ws).toArray n) :: (lx, instObj 52 ld) :: (ld, lexDict w ln sx lp t1 t2 t3 t4 t5 t6) :: news) 1 8
    (fun r news' => r = y ∧ news' = (lp, W.listOf ws.toArray (n + 1)) :: (lx, instObj 52 ld) :: (ld, lexDict w ln sx lp t1 t2 t3 t4 t5 t6) :: news) := by
  unfold Con
  refine rowSay ?_
  k_fill
  intro _
  intro dp un gd cn cs a ccd cl outer A₀ base h₀ L m s R B F X N C0 T hk hd hu hret
  k_dflt cell_enter
  k_steps
  exact hret _ _ _ _ (by k_asm) (by k_asm) ⟨rfl, rfl⟩

set_option maxHeartbeats 8000000 in
theorem push_con {prog w mean mg mb} (y : Value) (ws : List Value) (hws : ws.length ≤ 100) (n : Nat) (lx ld lp sx : Addr) (ln : Int) (t1 t2 t3 t4 t5 t6) (h1 : @LT.lt Nat _ ld lx) (h2 : @LT.lt Nat _ lx lp) (news) (hlp : ∀ p ∈ news, p.1 ≠ lp) : 
  Con prog w mean mg mb 49 [.ref lx, y] ((lp, W.listOf ws.toArray n) :: (lx, instObj 52 ld) :: (ld, lexDict w ln sx lp t1 t2 t3 t4 t5 t6) :: news) 1 8
    (fun r news' => r = .none ∧ news' = (lp, W.listOf (ws ++ [y]).toArray (n + 1)) :: (lx, instObj 52 ld) :: (ld, lexDict w ln sx lp t1 t2 t3 t4 t5 t6) :: news) := by
  unfold Con
  refine rowSay ?_
  k_fill
  intro _
  intro dp un gd cn cs a ccd cl outer A₀ base h₀ L m s R B F X N C0 T hk hd hu hret
  k_dflt cell_enter
  k_steps
  exact hret _ _ _ _ (by k_asm) (by rw [← List.push_toArray]; k_asm) ⟨rfl, rfl⟩
end Mine
end

section
open PySem PySem.W PyProof.Rows PySem.Spec PySem.Calls PySem.Builtin
namespace Mine
theorem slot_ci_next : Slot "callable_iterator" "__next__" "callable_iterator.__next__" :=
  .of (owner := "callable_iterator") (n := "__next__") (by rw [typeLookup_type, builtinLookup_eq_fast]; kernel_rfl) (by decide +kernel) (by decide +kernel) (by decide +kernel)
    (by first | exact .inl (by decide +kernel) | exact .inr (by decide +kernel)) (by rw [isSubtype_type]; kernel_rfl)
theorem entry_ci_next : entryFor table "callable_iterator.__next__" = some Builtin.«callable_iterator.__next__» := entryFor_of_tree (by kernel_rfl)
theorem args_ci_next (a : Value) : argsOk "callable_iterator.__next__" ⟨[a], []⟩ := by unfold argsOk; kernel_rfl
theorem slot_ci_iter : Slot "callable_iterator" "__iter__" "callable_iterator.__iter__" :=
  .of (owner := "callable_iterator") (n := "__iter__") (by rw [typeLookup_type, builtinLookup_eq_fast]; kernel_rfl) (by decide +kernel) (by decide +kernel) (by decide +kernel)
    (by first | exact .inl (by decide +kernel) | exact .inr (by decide +kernel)) (by rw [isSubtype_type]; kernel_rfl)
theorem entry_ci_iter : entryFor table "callable_iterator.__iter__" = some Builtin.«dict_keyiterator.__iter__» :=
  entryFor_alias (id' := "dict_keyiterator.__iter__") (by kernel_rfl) rfl (by decide +kernel) (by kernel_rfl)
theorem args_ci_iter (a : Value) : argsOk "callable_iterator.__iter__" ⟨[a], []⟩ := by unfold argsOk; kernel_rfl
theorem args_iter2 (a b : Value) : argsOk "iter" ⟨[a, b], []⟩ := by unfold argsOk; kernel_rfl
theorem slot_me_call : Slot "method" "__call__" "method.__call__" :=
  .of (owner := "method") (n := "__call__") (by rw [typeLookup_type, builtinLookup_eq_fast]; kernel_rfl) (by decide +kernel) (by decide +kernel) (by decide +kernel)
    (by first | exact .inl (by decide +kernel) | exact .inr (by decide +kernel)) (by rw [isSubtype_type]; kernel_rfl)

noncomputable abbrev citObj (q : Addr) (snt : Str) (t : Tok) : Obj := { cls := .type "callable_iterator", data := .fields #[.ref q, .str snt t, .bool false] }
section
variable {prog : Program} {w : World} {A : Around} {E : Value → Shared → Prop} {s : Shared} {h₀ : Heap} {L q I : Addr} {m : PySem.Str → Option Value} {news : List (Addr × Obj)} {x snt : PySem.Str} {t : Tok} {f lx : Value}
theorem typeIs_of {h : Heap} {T : String} {o : Obj} {s : Shared} {a : Addr} (ho : s.heap.get? a = some o) (hc : o.cls = .type T) : s.TypeIs (.ref a) T := ⟨o, ho, hc⟩
theorem iter_call {Q : Value → Shared → Prop} (F : Fr h₀ L s.heap m) (N : News h₀ L s.heap news) (hq : (q, methodObj f lx) ∈ news)
    (h : ∀ (I : Addr) h', Fr h₀ L h' m → News h₀ L h' ((I, citObj q snt t) :: news) → (∀ p ∈ news, p.1 < I) → Q (.ref I) { s with heap := h' }) :
    wpAny (model prog w) A (call (.builtin "iter") [.ref q, .str snt t]) Q E s := by
  refine call_function_entry (by decide +kernel) (by decide +kernel) kdk_entry_iter (args_iter2 _ _) ?_
  unfold Builtin.«iter»
  refine wpAny_bind (m := someArgs "iter" 1 2 _) (wpAny_of_eq (a := [Value.ref q, .str snt t]) (by first | rfl | kernel_rfl!) ?_)
  dsimp only
  have hty : s.TypeIs (.ref q) "method" := ⟨_, (N _ hq).1, rfl⟩
  refine wpAny_bind (wpAny_specialOf (name := PySem.Str.ofString "__call__") hty slot_me_call.lookup ?_)
  refine wpAny_ite_split (fun hab => absurd hab (by decide)) (fun _ => ?_)
  refine wpAny_bind (wpAny_rule ?_)
  exact wpAny_bind (wpAny_newObj_type (wpAny_pure ⟨_, rfl, h _ _ (F.push _) (News.push F N _ rfl) fun q hq => Heap.lt_size (N q hq).1⟩))
theorem pyIter_call {Q : Value → Shared → Prop} (N : News h₀ L s.heap news) (hI : (I, citObj q snt t) ∈ news) (h : Q (.ref I) s) : wpAny (model prog w) A (pyIter (.ref I)) Q E s := by
  have hit : s.TypeIs (.ref I) "callable_iterator" := ⟨_, (N _ hI).1, rfl⟩
  refine wpAny_pyIter_slot hit slot_ci_iter (wpAny_call_entry slot_ci_iter hit entry_ci_iter ?_ (args_ci_iter _))
  show wpAny _ _ (ret (.ref I)) _ _ s
  exact wpAny_pure ⟨_, rfl, "callable_iterator", _, hit, slot_ci_next.lookup, h⟩
theorem wp_callBorrowed {f : Value} {pos : List Value} {Q : Value → Shared → Prop}
    (hc : codeAny (model prog w) A (.call f ⟨pos, []⟩) (fun r s' => match r with | .ok (.ret v) => Q v s' | .ok _ => False | .error e => E e s') s) :
    wpAny (model prog w) A (callBorrowed f pos) Q E s := fun Γ p hΓ => by
  show PySem.wpCode _ (Γ.enter (.call f ⟨pos, []⟩) none p) _ p s
  refine wpCode_mono (fun r s' h' => ?_) (hc _ p rfl (hΓ.enter _ none p (by intro x; cases x)))
  cases r with
  | error e => exact h'
  | ok f => cases f <;> exact h'

theorem borrows_method {fa : Addr} {Q : Bool → Shared → Prop} (ho : s.heap.get? q = some (methodObj (.ref fa) lx)) (hf : ∃ fo fd, s.heap.get? fa = some fo ∧ fo.data = .func fd) (h : Q true s) :
    wpAny (model prog w) A (borrowsExactly (.ref q)) Q E s := by
  obtain ⟨fo, fd, hfo, hfd⟩ := hf
  unfold borrowsExactly
  refine wpAny_bind (wpAny_load ho ?_)
  dsimp only
  refine wpAny_ite_split (fun _ => ?_) (fun hab => absurd (by decide) hab)
  refine wpAny_bind (wpAny_load (a := fa) hfo ?_)
  rw [hfd]
  exact wpAny_pure h

theorem next_call {fa : Addr} {Q : Option Value → Shared → Prop} (hh : A.handled = none) (N : News h₀ L s.heap news) (hI : (I, citObj q snt t) ∈ news) (hq : (q, methodObj (.ref fa) lx) ∈ news) (hf : ∃ fo fd, s.heap.get? fa = some fo ∧ fo.data = .func fd)
   (h : codeAny (model prog w) A.in1 (.call (.ref fa) ⟨[lx], []⟩) (fun r s' => match r with 
      | .ok (.ret (.str x u)) => s'.heap.get? I = some (citObj q snt t) ∧ s'.heap.get? q = some (methodObj (.ref fa) lx) ∧ (∃ fo fd, s'.heap.get? fa = some fo ∧ fo.data = .func fd) ∧
          (x ≠ snt → Q (some (.str x u)) s') ∧ (x = snt → ∀ h', Heap.ExtBut I s'.heap h' → Q none { s' with heap := h' })
      | _ => False) s) : wpAny (model prog w) A (pyNext (.ref I)) Q E s := by
  have hit : s.TypeIs (.ref I) "callable_iterator" := ⟨_, (N _ hI).1, rfl⟩
  have ho := (N _ hI).1
  unfold pyNext
  refine wpAny_bind (wpAny_attempt (wpAny_callSpecial?_slot (name := PySem.Str.ofString "__next__") hit slot_ci_next
    (wpAny_call_entry slot_ci_next hit entry_ci_next ?_ (args_ci_next _))))
  unfold Builtin.«callable_iterator.__next__»
  refine wpAny_bind (wpAny_of_eq (a := (Value.ref I, [])) (by first | rfl | kernel_rfl!) ?_)
  dsimp only
  refine wpAny_bind (wpAny_field ho rfl (x := .bool false) rfl ?_)
  refine wpAny_ite_split (fun hab => absurd hab (by decide)) (fun _ => ?_)
  refine wpAny_bind (wpAny_field ho rfl (x := .ref q) rfl ?_)
  refine wpAny_bind (wpAny_attempt ?_)
  unfold callOutOfASlot
  refine wpAny_bind (borrows_method (N _ hq).1 hf ?_)
  refine wpAny_ite_split (fun _ => ?_) (fun hab => absurd rfl hab)
  refine wp_callBorrowed (method_call (N _ hq).1 (codeAny_mono h fun r s' hr => ?_))
  match r, hr with
  | .ok (.ret (.str x u)), ⟨h1, h2, h3, h4, h5⟩ =>
    dsimp only
    refine wpAny_bind (wpAny_field h1 rfl (x := .bool false) rfl ?_)
    refine wpAny_ite_split (fun hab => absurd hab (by decide)) (fun _ => ?_)
    refine wpAny_bind (wpAny_field h1 rfl (x := .str snt t) rfl ?_)
    refine wpAny_bind (wpAny_holding (wpAny_eqBool_str ?_))
    by_cases hx : snt = x
    · refine wpAny_ite_split (fun hab => absurd hab (by simp [hx])) (fun _ => ?_)
      refine wpAny_bind (wpAny_rule ?_)
      refine wpAny_bind ?_
      refine wpAny_bind (wpAny_field h1 rfl (x := .ref q) rfl ?_)
      refine wpAny_bind ?_
      unfold slotLetsGo
      refine wpAny_bind (borrows_method h2 h3 ?_)
      refine wpAny_ite_split (fun _ => ?_) (fun hab => absurd rfl hab)
      refine wpAny_pure ?_
      refine wpAny_bind (wpAny_setField h1 rfl (by simp) ?_)
      have g1 := Heap.get?_update_self (fun o => Obj.mapFields (fun x => x.setIfInBounds 0 Value.none) o) h1 (Obj.isFreed_of_fields (Obj.data_mapFields rfl _))
      refine wpAny_bind (wpAny_setField g1 (Obj.data_mapFields rfl _) (by simp) ?_)
      have g2 := Heap.get?_update_self (fun o => Obj.mapFields (fun x => x.setIfInBounds 1 Value.none) o) g1 (Obj.isFreed_of_fields (Obj.data_mapFields (Obj.data_mapFields rfl _) _))
      refine wpAny_setField g2 (Obj.data_mapFields (Obj.data_mapFields rfl _) _) (by simp) ?_
      show wpAny _ _ (newExc (.type "StopIteration") [] >>= _) _ _ _
      refine wpAny_bind ?_
      simp only [newExc, newTuple]
      refine wpAny_bind (wpAny_newObj_type ?_ (by size_fits))
      refine wpAny_bind (m := firstArgMember _ _) (wpAny_of_eq (a := Value.none) (by first | rfl | (simp only [firstArgMember]; rfl)) ?_)
      refine wpAny_newObj_type ?_ (by size_fits)
      simp only [raiseNew]
      refine wpAny_bind (wpAny_handled ?_)
      rw [show A.in1.handled = none from hh]
      refine wpAny_bind (wpAny_pure (wpAny_throw ?_))
      refine wpAny_bind (wpAny_isInstance (T := "StopIteration") (b := true) ⟨_, Heap.get?_push_size _ rfl, rfl⟩ isSubtype_stop ?_)
      refine wpAny_pure (h5 hx.symm _ fun b o hb e => ?_)
      refine Heap.get?_push_of_some _ (Heap.get?_push_of_some _ ?_)
      exact (Heap.get?_update_ne _ _ _ _ hb).trans ((Heap.get?_update_ne _ _ _ _ hb).trans ((Heap.get?_update_ne _ _ _ _ hb).trans e))
    · refine wpAny_ite_split (fun _ => ?_) (fun hab => absurd (by simp [hx]) hab)
      exact wpAny_pure ⟨_, rfl, wpAny_pure (h4 (Ne.symm hx))⟩
end
end Mine
end

section
open PySem PySem.W PyProof.Rows PySem.Spec PySem.Calls PySem.Builtin
namespace Mine
theorem start_L3 : True := by
  w_top off
  trivial
theorem mem_flip {α : Type} {l m r : List α} {p : α} (h : p ∈ l ++ (m ++ r)) : p ∈ m ++ (l ++ r) := by
  rcases List.mem_append.mp h with h | h
  · exact List.mem_append_right _ (List.mem_append_left _ h)
  · rcases List.mem_append.mp h with h | h
    · exact List.mem_append_left _ h
    · exact List.mem_append_right _ (List.mem_append_right _ h)
theorem mem_tail {α : Type} {l r r' : List α} (hs : ∀ p ∈ r, p ∈ r') {p : α} (h : p ∈ l ++ r) : p ∈ l ++ r' := by
  rcases List.mem_append.mp h with h | h
  · exact List.mem_append_left _ h
  · exact List.mem_append_right _ (hs p h)
theorem mem_mid {α : Type} {l m r : List α} {p : α} (h : p ∈ l ++ (m ++ r)) : p ∈ m ∨ p ∈ l ++ r := by
  rcases List.mem_append.mp h with h | h
  · exact .inr (List.mem_append_left _ h)
  · rcases List.mem_append.mp h with h | h
    · exact .inl h
    · exact .inr (List.mem_append_right _ h)
/-- the lexer's objects -/
structure LexP where
  lx : Addr
  ld : Addr
  lp : Addr
  f : Addr
  c : Addr
  sx : Addr
  sd : Addr
  I : Addr
  ce : Addr
  fd : FuncData
  oc : Obj
  oce : Obj
  es : List DictEntry
  en : Nat
  t1 : Tok
  t3 : Tok
  t4 : Tok
  t5 : Tok
  t6 : Tok
structure LexOk (P : LexP) : Prop where
  o1 : @LT.lt Nat _ P.ce P.I
  o2 : @LT.lt Nat _ P.I P.sd
  o3 : @LT.lt Nat _ P.sd P.sx
  o4 : @LT.lt Nat _ P.sx P.c
  o5 : @LT.lt Nat _ P.c P.f
  o6 : @LT.lt Nat _ P.f P.ld
  o7 : @LT.lt Nat _ P.ld P.lx
  o8 : @LT.lt Nat _ P.lx P.lp
  rd : getL (Str.ofString "read") P.es = some (some (.ref P.f))
structure LexOff (P : LexP) (news : List (Addr × Obj)) : Prop where
  lp : ∀ p ∈ news, p.1 ≠ P.lp
  ld : ∀ p ∈ news, p.1 ≠ P.ld
  I : ∀ p ∈ news, p.1 ≠ P.I
noncomputable abbrev LexP.led (P : LexP) (w : World) (ws : List Value) (n : Nat) (ln : Int) (t2 : Tok) (oI : Obj) (news : List (Addr × Obj)) : List (Addr × Obj) :=
  (P.lp, W.listOf ws.toArray n) :: (P.lx, instObj 52 P.ld) :: (P.ld, lexDict w ln P.sx P.lp P.t1 t2 P.t3 P.t4 P.t5 P.t6) :: (P.f, { cls := .type "function", data := .func P.fd }) :: (P.c, P.oc) :: (P.sx, instObj 52 P.sd) :: (P.sd, dictOf P.es P.en) :: (P.I, oI) :: (P.ce, P.oce) :: news
noncomputable abbrev LexP.ledX (P : LexP) (w : World) (ws : List Value) (n : Nat) (ln : Int) (t2 : Tok) (news : List (Addr × Obj)) : List (Addr × Obj) :=
  (P.lp, W.listOf ws.toArray n) :: (P.lx, instObj 52 P.ld) :: (P.ld, lexDict w ln P.sx P.lp P.t1 t2 P.t3 P.t4 P.t5 P.t6) :: (P.f, { cls := .type "function", data := .func P.fd }) :: (P.c, P.oc) :: (P.sx, instObj 52 P.sd) :: (P.sd, dictOf P.es P.en) :: (P.ce, P.oce) :: news
/-- what the reader that the lexer's source bears hands back -/
noncomputable def LamCon (prog : Program) (w : World) (mean : ExcName → Option Value) (mg mb : Str → Option Value) (P : LexP) : Prop :=
  ∀ (Tx : Str) (t : Tok) (i ch : Nat) (oI : Obj) (ws : List Value) (n : Nat) (ln : Int) (t2 tk : Tok) (news : List (Addr × Obj)), Tx.cps[i]? = some ch → StrIt oI Tx t i → LexOff P news →
    Con prog w mean mg mb P.f [.int 1 tk] (P.led w ws n ln t2 oI news) 2 16 (fun r news' => ∃ oI' t', StrIt oI' Tx t (i + 1) ∧ r = .str ⟨#[ch]⟩ t' ∧ news' = P.led w ws n ln t2 oI' news)
noncomputable def LamEnd (prog : Program) (w : World) (mean : ExcName → Option Value) (mg mb : Str → Option Value) (P : LexP) : Prop :=
  ∀ (Tx : Str) (t : Tok) (i : Nat) (oI : Obj) (ws : List Value) (n : Nat) (ln : Int) (t2 tk : Tok) (news : List (Addr × Obj)), Tx.cps[i]? = none → StrIt oI Tx t i → LexOff P news →
    Con prog w mean mg mb P.f [.int 1 tk] (P.led w ws n ln t2 oI news) 2 16 (fun r news' => ∃ t', r = .str (Str.ofString "") t' ∧ news' = P.ledX w ws n ln t2 news)
theorem LamCon.at {prog w mean mg mb} {P : LexP} (H : LamCon prog w mean mg mb P) {Tx : Str} {t : Tok} {i ch : Nat} {oI : Obj} {ws : List Value} {n : Nat} {ln : Int} {t2 tk : Tok} {news : List (Addr × Obj)} (hx : Tx.cps[i]? = some ch) (hi : StrIt oI Tx t i) (off : LexOff P news) :
    Con prog w mean mg mb P.f [.int 1 tk] (P.led w ws n ln t2 oI news) 2 16 (fun r news' => ∃ oI' t', StrIt oI' Tx t (i + 1) ∧ r = .str ⟨#[ch]⟩ t' ∧ news' = P.led w ws n ln t2 oI' news) := H _ _ _ _ _ _ _ _ _ _ _ hx hi off
theorem LamEnd.at {prog w mean mg mb} {P : LexP} (H : LamEnd prog w mean mg mb P) {Tx : Str} {t : Tok} {i : Nat} {oI : Obj} {ws : List Value} {n : Nat} {ln : Int} {t2 tk : Tok} {news : List (Addr × Obj)} (hx : Tx.cps[i]? = none) (hi : StrIt oI Tx t i) (off : LexOff P news) :
    Con prog w mean mg mb P.f [.int 1 tk] (P.led w ws n ln t2 oI news) 2 16 (fun r news' => ∃ t', r = .str (Str.ofString "") t' ∧ news' = P.ledX w ws n ln t2 news) := H _ _ _ _ _ _ _ _ _ _ hx hi off

local macro_rules | `(tactic| k_all) => `(tactic| first | assumption | (refine' allNe_of_lt ?h9 ?e9; (case h9 => assumption); (case e9 => omega)))
local macro_rules | `(tactic| k_room) => `(tactic| ktr_room)
local macro_rules | `(tactic| walk_at "getAttr ref") => `(tactic| (k_here; k_dflt (refine' get_own ?k1 ?k2 ?k3 ?k4 ?k5 ?k6 ?k7 ?k8 ?k9 ?_; (case k1 => k_asm); (case k2 => k_asm); (case k3 => k_inst); (case k4 => k_is); (case k5 => k_is); (case k6 => k_is); (case k7 => k_is); (case k8 => assumption); (case k9 => k_handed); k_whole)))
local macro_rules | `(tactic| walk_at "call ref") => `(tactic| (k_here; k_dflt (refine' Con.use (LamCon.at ‹_› ‹_› ‹_› ‹_›) (by k_asm) (by k_asm) (by k_asm) (by k_asm) (by assumption) (by k_asm) (by first | exact rfl | assumption) (by ktr_room) (by ktr_units) ?_); intro r9 n9 h9 tk9 F9 N9 p9; obtain ⟨oI9, t9, hi9, e9, e8⟩ := p9; subst e9 e8; (try dsimp only); (try k_fold)))

theorem ite_yes {c : Prop} [Decidable c] {p q : Prop} (h : c) (hq : p) : if c then p else q := by rw [if_pos h]; exact hq
local macro_rules | `(tactic| walk_at "ite") => `(tactic| first | (refine ite_not ?hno ?_; (case hno => with_reducible assumption)) | (refine ite_yes ?hyes ?_; (case hyes => with_reducible assumption)))
set_option maxHeartbeats 8000000 in
theorem read_con {prog w mean mg mb} (P : LexP) (ok : LexOk P) (HL : LamCon prog w mean mg mb P) (Tx : Str) (t : Tok) (i ch : Nat) (oI : Obj) (ws : List Value) (n : Nat) (ln : Int) (t2 : Tok) (news : List (Addr × Obj)) (hx : Tx.cps[i]? = some ch) (hi : StrIt oI Tx t i) (off : LexOff P news) (hc : ¬ (((⟨#[ch]⟩ : Str) == Str.ofString "\n") = true)) :
    Con prog w mean mg mb 35 [.ref P.lx] (P.led w ws n ln t2 oI news) 3 24 (fun r news' => ∃ oI' t', StrIt oI' Tx t (i + 1) ∧ r = .str ⟨#[ch]⟩ t' ∧ news' = P.led w ws n ln t2 oI' news) := by
  unfold Con
  refine rowSay ?_
  k_fill
  intro _
  intro dp un gd cn cs a ccd cl outer A₀ base h₀ L m s R B F X N C0 T hk hd hu hret
  obtain ⟨o1, o2, o3, o4, o5, o6, o7, o8, rd⟩ := ok
  have off1 := off.lp
  have off2 := off.ld
  have off3 := off.I
  k_dflt cell_enter
  k_steps
  exact hret _ _ _ _ (by k_asm) (by k_asm) ⟨_, _, ‹_›, rfl, rfl⟩

set_option maxHeartbeats 8000000 in
theorem read_nl {prog w mean mg mb} (P : LexP) (ok : LexOk P) (HL : LamCon prog w mean mg mb P) (Tx : Str) (t : Tok) (i ch : Nat) (oI : Obj) (ws : List Value) (n : Nat) (ln : Int) (t2 : Tok) (news : List (Addr × Obj)) (hx : Tx.cps[i]? = some ch) (hi : StrIt oI Tx t i) (off : LexOff P news) (hc : (((⟨#[ch]⟩ : Str) == Str.ofString "\n") = true)) :
    Con prog w mean mg mb 35 [.ref P.lx] (P.led w ws n ln t2 oI news) 3 24 (fun r news' => ∃ oI' t' t2', StrIt oI' Tx t (i + 1) ∧ r = .str ⟨#[ch]⟩ t' ∧ news' = P.led w ws n (ln + 1) t2' oI' news) := by
  unfold Con
  refine rowSay ?_
  k_fill
  intro _
  intro dp un gd cn cs a ccd cl outer A₀ base h₀ L m s R B F X N C0 T hk hd hu hret
  obtain ⟨o1, o2, o3, o4, o5, o6, o7, o8, rd⟩ := ok
  have off1 := off.lp
  have off2 := off.ld
  have off3 := off.I
  k_dflt cell_enter
  k_steps
  exact hret _ _ _ _ (by k_asm) (by k_asm) ⟨_, _, _, ‹_›, rfl, rfl⟩

local macro_rules | `(tactic| walk_at "call ref") => `(tactic| (k_here; k_dflt (refine' Con.use (LamEnd.at ‹_› ‹_› ‹_› ‹_›) (by k_asm) (by k_asm) (by k_asm) (by k_asm) (by assumption) (by k_asm) (by first | exact rfl | assumption) (by ktr_room) (by ktr_units) ?_); intro r9 n9 h9 tk9 F9 N9 p9; obtain ⟨t9, e9, e8⟩ := p9; subst e9 e8; (try dsimp only); (try k_fold)))
local macro_rules | `(tactic| walk_at "ite") => `(tactic| (k_closed; first | refine ite_not (by decide +kernel) ?_ | refine ite_yes (by decide +kernel) ?_))
set_option maxHeartbeats 8000000 in
theorem read_end {prog w mean mg mb} (P : LexP) (ok : LexOk P) (HL : LamEnd prog w mean mg mb P) (Tx : Str) (t : Tok) (i : Nat) (oI : Obj) (ws : List Value) (n : Nat) (ln : Int) (t2 : Tok) (news : List (Addr × Obj)) (hx : Tx.cps[i]? = none) (hi : StrIt oI Tx t i) (off : LexOff P news) :
    Con prog w mean mg mb 35 [.ref P.lx] (P.led w ws n ln t2 oI news) 3 24 (fun r news' => ∃ t', r = .str (Str.ofString "") t' ∧ news' = P.ledX w ws n ln t2 news) := by
  unfold Con
  refine rowSay ?_
  k_fill
  intro _
  intro dp un gd cn cs a ccd cl outer A₀ base h₀ L m s R B F X N C0 T hk hd hu hret
  obtain ⟨o1, o2, o3, o4, o5, o6, o7, o8, rd⟩ := ok
  have off1 := off.lp
  have off2 := off.ld
  have off3 := off.I
  k_dflt cell_enter
  k_steps
  exact hret _ _ _ _ (by k_asm) (by k_asm) ⟨_, rfl, rfl⟩
end Mine
end

section
open PySem PySem.W PyProof.Rows PySem.Spec PySem.Calls PySem.Builtin
namespace Mine
section
variable {prog : Program} {w : World} {A : Around} {R : Result → Shared → Prop} {s : Shared} {target : Expr} {it : Value} {body orelse : List Stmt} {env : Env}
theorem forLoop_turn
    (turn : wpAny (model prog w) A (pyNext it) (fun r s₁ => match r with
      | none => wpAny (model prog w) A (execs orelse env) (fun f s₃ => R (.ok f) s₃) (notedBy (model prog w) A env fun e s' => R (.error e) s') s₁
      | some v => wpAny (model prog w) A (assign target env v) (fun _ s₂ => wpAny (model prog w) A (execs body env) (fun f s₃ => match f with
          | .next | .cont => codeAny (model prog w) A (.forLoop target it body orelse env) R s₃
          | .brk => R (.ok .next) s₃
          | .ret v => R (.ok (.ret v)) s₃) (notedBy (model prog w) A env fun e s' => R (.error e) s') s₂) (notedBy (model prog w) A env fun e s' => R (.error e) s') s₁) (notedBy (model prog w) A env fun e s' => R (.error e) s') s)
    (ht : ∀ v, letOwnedTupleGo target it v = pure () := by intro _; rfl) : codeAny (model prog w) A (.forLoop target it body orelse env) R s := by
  refine codeAny_of_tree ?_
  show wpAny _ _ ((forTurn target it body orelse env).onRaise (fun x => do noteFrame x env; theTreesLotGoes x)) _ _ s
  refine wpAny_noted ?_
  simp only [forTurn]
  refine wpAny_bind (wpAny_standAt (wpAny_bind (wpAny_onRaise (wpAny_mono turn (fun r s₁ h₁ => ?_) fun _ _ h' => wpAny_standAt h'))))
  cases r with
  | none => exact wpAny_pure ⟨rfl, codeAny_block h₁⟩
  | some v =>
    refine wpAny_bind (wpAny_of_eq (ht v) ?_)
    refine wpAny_bind (wpAny_mono h₁ (fun _ s₂ h₂ => wpAny_bind (wpAny_mono h₂ (fun f s₃ h₃ => ?_) fun _ _ h' => h')) fun _ _ h' => h')
    cases f with
    | next => exact wpAny_pure ⟨rfl, h₃⟩
    | cont => exact wpAny_pure ⟨rfl, h₃⟩
    | brk => exact wpAny_pure h₃
    | ret v => exact wpAny_pure h₃
end

theorem led_rot {P : LexP} {w : World} {h₀ h : Heap} {L : Addr} {x y : Addr × Obj} {ws : List Value} {n : Nat} {ln : Int} {t2 : Tok} {oI : Obj} {news : List (Addr × Obj)} (N : News h₀ L h (x :: y :: P.led w ws n ln t2 oI news)) : News h₀ L h (P.led w ws n ln t2 oI (x :: y :: news)) :=
  fun p hp => N p (mem_flip (l := [_, _, _, _, _, _, _, _, _]) (m := [_, _]) hp)
theorem led_unrot {P : LexP} {w : World} {h₀ h : Heap} {L : Addr} {x y : Addr × Obj} {ws : List Value} {n : Nat} {ln : Int} {t2 : Tok} {oI : Obj} {news : List (Addr × Obj)} (N : News h₀ L h (P.led w ws n ln t2 oI (x :: y :: news))) : News h₀ L h (P.led w ws n ln t2 oI news) :=
  fun p hp => N p (mem_tail (l := [_, _, _, _, _, _, _, _, _]) (fun _ h => List.mem_cons_of_mem _ (List.mem_cons_of_mem _ h)) hp)
theorem LexOff.two {P : LexP} {news : List (Addr × Obj)} {a b : Addr × Obj} (off : LexOff P news) (a1 : a.1 ≠ P.lp) (a2 : a.1 ≠ P.ld) (a3 : a.1 ≠ P.I) (b1 : b.1 ≠ P.lp) (b2 : b.1 ≠ P.ld) (b3 : b.1 ≠ P.I) : LexOff P (a :: b :: news) :=
  ⟨fun p hp => by
    rcases List.mem_cons.mp hp with rfl | hp
    · exact a1
    · rcases List.mem_cons.mp hp with rfl | hp
      · exact b1
      · exact off.lp p hp, fun p hp => by
    rcases List.mem_cons.mp hp with rfl | hp
    · exact a2
    · rcases List.mem_cons.mp hp with rfl | hp
      · exact b2
      · exact off.ld p hp, fun p hp => by
    rcases List.mem_cons.mp hp with rfl | hp
    · exact a3
    · rcases List.mem_cons.mp hp with rfl | hp
      · exact b3
      · exact off.I p hp⟩
section
variable {prog : Program} {w : World} {mean : ExcName → Option Value} {mg mb : Str → Option Value} {dp un : Nat} {gd : Option (List Code)} {cn : Str} {cs : Scope} {a : Addr} {ccd : Value} {cl : List (Str × Addr)} {outer : List Env} {A₀ : Around} {base h₀ : Heap} {L : Addr} {m : Str → Option Value}
  {s : Shared} {R : Result → Shared → Prop} {target : Expr} {body orelse : List Stmt} {P : LexP} {Tx : Str} {t ts : Tok} {i ch : Nat} {oI : Obj} {ws : List Value} {n : Nat} {ln : Int} {t2 : Tok} {news : List (Addr × Obj)} {It q : Addr}
/-- a turn of a loop over the lexer's signs: a sign that ends no line -/
theorem cit_turn (ok : LexOk P) (HL : LamCon prog w mean mg mb P) (hx : Tx.cps[i]? = some ch) (hc : ¬ (((⟨#[ch]⟩ : Str) == Str.ofString "\n") = true)) (hi : StrIt oI Tx t i) (off : LexOff P ((It, citObj q (Str.ofString "") ts) :: (q, methodObj (.ref 35) (.ref P.lx)) :: news))
    (B : Below A₀ base outer h₀) (F : Fr h₀ L s.heap m) (X : (hd.heap_1 w.params).In h₀) (N : News h₀ L s.heap (P.led w ws n ln t2 oI ((It, citObj q (Str.ofString "") ts) :: (q, methodObj (.ref 35) (.ref P.lx)) :: news))) (H : CodeHd base (164, 160).fst (164, 160).snd)
    (T : Top topProg (looseW rowView [Str.ofString "COMPILER_FLAG_NAMES"] ++ List.map (fun x => x.name) (recsOf rowView) ++
      List.map (fun x => x.fst) (litsOf rowView) ++
    List.map (fun x => x.name) (clssOf rowView (looseW rowView [Str.ofString "COMPILER_FLAG_NAMES"]))) mean mg mb h₀) (hk : cs.kind = .function)
    (hd : dp + 3 < recursionLimit) (hu : un + 1 + 24 < cLine)
    (h : ∀ h' tk' oI' t', StrIt oI' Tx t (i + 1) → Fr h₀ L h' m → News h₀ L h' (P.led w ws n ln t2 oI' ((It, citObj q (Str.ofString "") ts) :: (q, methodObj (.ref 35) (.ref P.lx)) :: news)) →
      wpAny (model prog w) (ktrTop dp un gd cn cs L a ccd cl outer) (assign target (envX cn cs L a ccd cl) (.str ⟨#[ch]⟩ t')) (fun _ s₂ => wpAny (model prog w) (ktrTop dp un gd cn cs L a ccd cl outer) (execs body (envX cn cs L a ccd cl)) (fun f s₃ => match f with
          | .next | .cont => codeAny (model prog w) (ktrTop dp un gd cn cs L a ccd cl outer) (.forLoop target (.ref It) body orelse (envX cn cs L a ccd cl)) R s₃
          | .brk => R (.ok .next) s₃
          | .ret v => R (.ok (.ret v)) s₃) (notedBy (model prog w) (ktrTop dp un gd cn cs L a ccd cl outer) (envX cn cs L a ccd cl) fun e s' => R (.error e) s') s₂) (notedBy (model prog w) (ktrTop dp un gd cn cs L a ccd cl outer) (envX cn cs L a ccd cl) fun e s' => R (.error e) s') { s with heap := h', toks := tk' })
    (ht : ∀ v, letOwnedTupleGo target (.ref It) v = pure ()) : codeAny (model prog w) (ktrTop dp un gd cn cs L a ccd cl outer) (.forLoop target (.ref It) body orelse (envX cn cs L a ccd cl)) R s := by
  refine forLoop_turn ?_ ht
  have m1 : ∀ oI, (It, citObj q (Str.ofString "") ts) ∈ P.led w ws n ln t2 oI ((It, citObj q (Str.ofString "") ts) :: (q, methodObj (.ref 35) (.ref P.lx)) :: news) := fun oI => List.mem_append_right [_, _, _, _, _, _, _, _, _] List.mem_cons_self
  have m2 : ∀ oI, (q, methodObj (.ref 35) (.ref P.lx)) ∈ P.led w ws n ln t2 oI ((It, citObj q (Str.ofString "") ts) :: (q, methodObj (.ref 35) (.ref P.lx)) :: news) := fun oI => List.mem_append_right [_, _, _, _, _, _, _, _, _] (List.mem_cons_of_mem _ List.mem_cons_self)
  have hfn : ∃ fo fd, h₀.get? 35 = some fo ∧ fo.data = .func fd := by
    refine ⟨_, _, X 35 _ rfl, rfl⟩
  obtain ⟨fo, fd, hfo, hfd⟩ := hfn
  refine next_call rfl N (m1 oI) (m2 oI) ⟨fo, fd, F.keep _ _ hfo, hfd⟩ ?_
  refine read_con P ok HL Tx t i ch oI ws n ln t2 _ hx hi off hc dp (un + 1) gd cn cs a ccd cl outer A₀ base h₀ L m s _ B F X N H T hk hd hu fun r news' h' tk' F' N' p => ?_
  obtain ⟨oI', t', hi', rfl, rfl⟩ := p
  refine ⟨(N' _ (m1 oI')).1, (N' _ (m2 oI')).1, ⟨fo, fd, F'.keep _ _ hfo, hfd⟩, fun _ => h h' tk' oI' t' hi' F' N', fun e => ?_⟩
  exact absurd (congrArg (fun x : Str => x.length) e) (by show ¬ (1 = (Str.ofString "").length); decide +kernel)

/-- a turn of a loop over the lexer's signs: a line's end -/
theorem cit_nl (ok : LexOk P) (HL : LamCon prog w mean mg mb P) (hx : Tx.cps[i]? = some ch) (hc : (((⟨#[ch]⟩ : Str) == Str.ofString "\n") = true)) (hi : StrIt oI Tx t i) (off : LexOff P ((It, citObj q (Str.ofString "") ts) :: (q, methodObj (.ref 35) (.ref P.lx)) :: news))
    (B : Below A₀ base outer h₀) (F : Fr h₀ L s.heap m) (X : (hd.heap_1 w.params).In h₀) (N : News h₀ L s.heap (P.led w ws n ln t2 oI ((It, citObj q (Str.ofString "") ts) :: (q, methodObj (.ref 35) (.ref P.lx)) :: news))) (H : CodeHd base (164, 160).fst (164, 160).snd)
    (T : Top topProg (looseW rowView [Str.ofString "COMPILER_FLAG_NAMES"] ++ List.map (fun x => x.name) (recsOf rowView) ++
      List.map (fun x => x.fst) (litsOf rowView) ++
    List.map (fun x => x.name) (clssOf rowView (looseW rowView [Str.ofString "COMPILER_FLAG_NAMES"]))) mean mg mb h₀) (hk : cs.kind = .function)
    (hd : dp + 3 < recursionLimit) (hu : un + 1 + 24 < cLine)
    (h : ∀ h' tk' oI' t' t2', StrIt oI' Tx t (i + 1) → Fr h₀ L h' m → News h₀ L h' (P.led w ws n (ln + 1) t2' oI' ((It, citObj q (Str.ofString "") ts) :: (q, methodObj (.ref 35) (.ref P.lx)) :: news)) →
      wpAny (model prog w) (ktrTop dp un gd cn cs L a ccd cl outer) (assign target (envX cn cs L a ccd cl) (.str ⟨#[ch]⟩ t')) (fun _ s₂ => wpAny (model prog w) (ktrTop dp un gd cn cs L a ccd cl outer) (execs body (envX cn cs L a ccd cl)) (fun f s₃ => match f with
          | .next | .cont => codeAny (model prog w) (ktrTop dp un gd cn cs L a ccd cl outer) (.forLoop target (.ref It) body orelse (envX cn cs L a ccd cl)) R s₃
          | .brk => R (.ok .next) s₃
          | .ret v => R (.ok (.ret v)) s₃) (notedBy (model prog w) (ktrTop dp un gd cn cs L a ccd cl outer) (envX cn cs L a ccd cl) fun e s' => R (.error e) s') s₂) (notedBy (model prog w) (ktrTop dp un gd cn cs L a ccd cl outer) (envX cn cs L a ccd cl) fun e s' => R (.error e) s') { s with heap := h', toks := tk' })
    (ht : ∀ v, letOwnedTupleGo target (.ref It) v = pure ()) : codeAny (model prog w) (ktrTop dp un gd cn cs L a ccd cl outer) (.forLoop target (.ref It) body orelse (envX cn cs L a ccd cl)) R s := by
  refine forLoop_turn ?_ ht
  have m1 : ∀ ln t2 oI, (It, citObj q (Str.ofString "") ts) ∈ P.led w ws n ln t2 oI ((It, citObj q (Str.ofString "") ts) :: (q, methodObj (.ref 35) (.ref P.lx)) :: news) := fun ln t2 oI => List.mem_append_right [_, _, _, _, _, _, _, _, _] List.mem_cons_self
  have m2 : ∀ ln t2 oI, (q, methodObj (.ref 35) (.ref P.lx)) ∈ P.led w ws n ln t2 oI ((It, citObj q (Str.ofString "") ts) :: (q, methodObj (.ref 35) (.ref P.lx)) :: news) := fun ln t2 oI => List.mem_append_right [_, _, _, _, _, _, _, _, _] (List.mem_cons_of_mem _ List.mem_cons_self)
  have hfn : ∃ fo fd, h₀.get? 35 = some fo ∧ fo.data = .func fd := by
    refine ⟨_, _, X 35 _ rfl, rfl⟩
  obtain ⟨fo, fd, hfo, hfd⟩ := hfn
  refine next_call rfl N (m1 _ _ oI) (m2 _ _ oI) ⟨fo, fd, F.keep _ _ hfo, hfd⟩ ?_
  refine read_nl P ok HL Tx t i ch oI ws n ln t2 _ hx hi off hc dp (un + 1) gd cn cs a ccd cl outer A₀ base h₀ L m s _ B F X N H T hk hd hu fun r news' h' tk' F' N' p => ?_
  obtain ⟨oI', t', t2', hi', rfl, rfl⟩ := p
  refine ⟨(N' _ (m1 _ _ oI')).1, (N' _ (m2 _ _ oI')).1, ⟨fo, fd, F'.keep _ _ hfo, hfd⟩, fun _ => h h' tk' oI' t' t2' hi' F' N', fun e => ?_⟩
  exact absurd (congrArg (fun x : Str => x.length) e) (by show ¬ (1 = (Str.ofString "").length); decide +kernel)


theorem ext_drop {h h' : Heap} {o : Obj} {l : List (Addr × Obj)} (F : Fr h₀ L h m) (N : News h₀ L h l) (hI : (It, o) ∈ l) (hx : Heap.ExtBut It h h') :
    Fr h₀ L h' m ∧ ∀ l', (∀ p ∈ l', p ∈ l ∧ p.1 ≠ It) → News h₀ L h' l' := by
  have hm := N _ hI
  obtain ⟨oL, es, ep, hL, r⟩ := F.ns
  refine ⟨⟨⟨oL, es, ep, hx _ _ (Ne.symm hm.2.1) hL, r⟩, fun b ob e => hx b ob (fun q => ?_) (F.keep b ob e), F.above⟩, fun l' hl p hp => ⟨hx _ _ (hl p hp).2 (N _ (hl p hp).1).1, (N _ (hl p hp).1).2⟩⟩
  rw [q, hm.2.2] at e; cases e

/-- .. the text's end -/
theorem cit_end (ok : LexOk P) (HE : LamEnd prog w mean mg mb P) (hx : Tx.cps[i]? = none) (hi : StrIt oI Tx t i) (off : LexOff P ((It, citObj q (Str.ofString "") ts) :: (q, methodObj (.ref 35) (.ref P.lx)) :: news))
    (hIt : ∀ p ∈ P.ledX w ws n ln t2 news, p.1 ≠ It)
    (B : Below A₀ base outer h₀) (F : Fr h₀ L s.heap m) (X : (hd.heap_1 w.params).In h₀) (N : News h₀ L s.heap (P.led w ws n ln t2 oI ((It, citObj q (Str.ofString "") ts) :: (q, methodObj (.ref 35) (.ref P.lx)) :: news))) (H : CodeHd base (164, 160).fst (164, 160).snd)
    (T : Top topProg (looseW rowView [Str.ofString "COMPILER_FLAG_NAMES"] ++ List.map (fun x => x.name) (recsOf rowView) ++
      List.map (fun x => x.fst) (litsOf rowView) ++
    List.map (fun x => x.name) (clssOf rowView (looseW rowView [Str.ofString "COMPILER_FLAG_NAMES"]))) mean mg mb h₀) (hk : cs.kind = .function)
    (hd : dp + 3 < recursionLimit) (hu : un + 1 + 24 < cLine)
    (h : ∀ h' tk', Fr h₀ L h' m → News h₀ L h' (P.ledX w ws n ln t2 news) →
      wpAny (model prog w) (ktrTop dp un gd cn cs L a ccd cl outer) (execs orelse (envX cn cs L a ccd cl)) (fun f s₃ => R (.ok f) s₃) (notedBy (model prog w) (ktrTop dp un gd cn cs L a ccd cl outer) (envX cn cs L a ccd cl) fun e s' => R (.error e) s') { s with heap := h', toks := tk' })
    (ht : ∀ v, letOwnedTupleGo target (.ref It) v = pure ()) : codeAny (model prog w) (ktrTop dp un gd cn cs L a ccd cl outer) (.forLoop target (.ref It) body orelse (envX cn cs L a ccd cl)) R s := by
  refine forLoop_turn ?_ ht
  have m1 : ∀ oI, (It, citObj q (Str.ofString "") ts) ∈ P.led w ws n ln t2 oI ((It, citObj q (Str.ofString "") ts) :: (q, methodObj (.ref 35) (.ref P.lx)) :: news) := fun oI => List.mem_append_right [_, _, _, _, _, _, _, _, _] List.mem_cons_self
  have m2 : ∀ oI, (q, methodObj (.ref 35) (.ref P.lx)) ∈ P.led w ws n ln t2 oI ((It, citObj q (Str.ofString "") ts) :: (q, methodObj (.ref 35) (.ref P.lx)) :: news) := fun oI => List.mem_append_right [_, _, _, _, _, _, _, _, _] (List.mem_cons_of_mem _ List.mem_cons_self)
  have n1 : (It, citObj q (Str.ofString "") ts) ∈ P.ledX w ws n ln t2 ((It, citObj q (Str.ofString "") ts) :: (q, methodObj (.ref 35) (.ref P.lx)) :: news) := by simp
  have n2 : (q, methodObj (.ref 35) (.ref P.lx)) ∈ P.ledX w ws n ln t2 ((It, citObj q (Str.ofString "") ts) :: (q, methodObj (.ref 35) (.ref P.lx)) :: news) := by simp
  have hfn : ∃ fo fd, h₀.get? 35 = some fo ∧ fo.data = .func fd := by
    refine ⟨_, _, X 35 _ rfl, rfl⟩
  obtain ⟨fo, fd, hfo, hfd⟩ := hfn
  refine next_call rfl N (m1 oI) (m2 oI) ⟨fo, fd, F.keep _ _ hfo, hfd⟩ ?_
  refine read_end P ok HE Tx t i oI ws n ln t2 _ hx hi off dp (un + 1) gd cn cs a ccd cl outer A₀ base h₀ L m s _ B F X N H T hk hd hu fun r news' h' tk' F' N' p => ?_
  obtain ⟨t', rfl, rfl⟩ := p
  refine ⟨(N' _ n1).1, (N' _ n2).1, ⟨fo, fd, F'.keep _ _ hfo, hfd⟩, fun e => absurd rfl e, fun _ h₂ hx₂ => ?_⟩
  obtain ⟨F₂, N₂⟩ := ext_drop F' N' n1 hx₂
  refine h h₂ tk' F₂ (N₂ _ fun p hp => ⟨?_, hIt p hp⟩)
  simp only [List.mem_cons] at hp ⊢
  rcases hp with h | h | h | h | h | h | h | h | h <;> simp [h]
theorem quote_loop {W : Str} {j : Nat} (ok : LexOk P) (HL : LamCon prog w mean mg mb P) (off : LexOff P ((It, citObj q (Str.ofString "") ts) :: (q, methodObj (.ref 35) (.ref P.lx)) :: news))
    (hW : ∀ k, k < W.length → ∃ c, Tx.cps[j + 1 + k]? = some c ∧ W.cps[k]? = some c ∧ c ≠ 34 ∧ c ≠ 92 ∧ c ≠ 10) (he : Tx.cps[j + 1 + W.length]? = some 34)
    (B : Below A₀ base outer h₀) (X : (hd.heap_1 w.params).In h₀) (H : CodeHd base (164, 160).fst (164, 160).snd)
    (T : Top topProg (looseW rowView [Str.ofString "COMPILER_FLAG_NAMES"] ++ List.map (fun x => x.name) (recsOf rowView) ++
      List.map (fun x => x.fst) (litsOf rowView) ++
    List.map (fun x => x.name) (clssOf rowView (looseW rowView [Str.ofString "COMPILER_FLAG_NAMES"]))) mean mg mb h₀) (hk : cs.kind = .function)
    (hd : dp + 3 < recursionLimit) (hu : un + 1 + 24 < cLine) (Jm : Nat → (Str → Option Value) → Prop)
    (turn : ∀ k c m₁ h tk oI' t', k < W.length → W.cps[k]? = some c → c ≠ 34 → c ≠ 92 → c ≠ 10 → Jm k m₁ → StrIt oI' Tx t (j + 1 + k + 1) → Fr h₀ L h m₁ → News h₀ L h (P.led w ws n ln t2 oI' ((It, citObj q (Str.ofString "") ts) :: (q, methodObj (.ref 35) (.ref P.lx)) :: news)) →
      wpAny (model prog w) (ktrTop dp un gd cn cs L a ccd cl outer) (assign target (envX cn cs L a ccd cl) (.str ⟨#[c]⟩ t')) (fun _ s₂ => wpAny (model prog w) (ktrTop dp un gd cn cs L a ccd cl outer) (execs body (envX cn cs L a ccd cl)) (fun f s₃ => match f with
          | .next | .cont => ∃ h' tk' m₂, s₃ = { s with heap := h', toks := tk' } ∧ Jm (k + 1) m₂ ∧ Fr h₀ L h' m₂ ∧ News h₀ L h' (P.led w ws n ln t2 oI' ((It, citObj q (Str.ofString "") ts) :: (q, methodObj (.ref 35) (.ref P.lx)) :: news))
          | _ => False) (notedBy (model prog w) (ktrTop dp un gd cn cs L a ccd cl outer) (envX cn cs L a ccd cl) fun e s' => R (.error e) s') s₂) (notedBy (model prog w) (ktrTop dp un gd cn cs L a ccd cl outer) (envX cn cs L a ccd cl) fun e s' => R (.error e) s') { s with heap := h, toks := tk })
    (done : ∀ m₁ h tk oI' t', Jm W.length m₁ → StrIt oI' Tx t (j + 1 + W.length + 1) → Fr h₀ L h m₁ → News h₀ L h (P.led w ws n ln t2 oI' ((It, citObj q (Str.ofString "") ts) :: (q, methodObj (.ref 35) (.ref P.lx)) :: news)) →
      wpAny (model prog w) (ktrTop dp un gd cn cs L a ccd cl outer) (assign target (envX cn cs L a ccd cl) (.str ⟨#[34]⟩ t')) (fun _ s₂ => wpAny (model prog w) (ktrTop dp un gd cn cs L a ccd cl outer) (execs body (envX cn cs L a ccd cl)) (fun f s₃ => match f with
          | .ret v => R (.ok (.ret v)) s₃
          | _ => False) (notedBy (model prog w) (ktrTop dp un gd cn cs L a ccd cl outer) (envX cn cs L a ccd cl) fun e s' => R (.error e) s') s₂) (notedBy (model prog w) (ktrTop dp un gd cn cs L a ccd cl outer) (envX cn cs L a ccd cl) fun e s' => R (.error e) s') { s with heap := h, toks := tk })
    (ht : ∀ v, letOwnedTupleGo target (.ref It) v = pure ()) :
    ∀ (d k : Nat) (m₁ : Str → Option Value) (h : Heap) (tk : Nat) (oI' : Obj), k + d = W.length → Jm k m₁ → StrIt oI' Tx t (j + 1 + k) → Fr h₀ L h m₁ → News h₀ L h (P.led w ws n ln t2 oI' ((It, citObj q (Str.ofString "") ts) :: (q, methodObj (.ref 35) (.ref P.lx)) :: news)) →
      codeAny (model prog w) (ktrTop dp un gd cn cs L a ccd cl outer) (.forLoop target (.ref It) body orelse (envX cn cs L a ccd cl)) R { s with heap := h, toks := tk } := by
  intro d
  induction d with
  | zero =>
    intro k m₁ h tk oI' hkd hJ hi F N
    have e : k = W.length := by omega
    subst e
    refine cit_turn ok HL he (by decide +kernel) hi off B F X N H T hk hd hu (fun h' tk' oI'' t' hi' F' N' => ?_) ht
    refine wpAny_mono (done m₁ h' tk' oI'' t' hJ hi' F' N') (fun _ s₂ h₂ => wpAny_mono h₂ (fun f s₃ h₃ => ?_) fun _ _ x => x) fun _ _ x => x
    cases f with
    | next => exact h₃.elim
    | cont => exact h₃.elim
    | brk => exact h₃.elim
    | ret v => exact h₃
  | succ d ih =>
    intro k m₁ h tk oI' hkd hJ hi F N
    obtain ⟨c, hc, hWc, h34, h92, h10⟩ := hW k (by omega)
    have hn : ¬ (((⟨#[c]⟩ : Str) == Str.ofString "\n") = true) := fun e => h10 (by
      have := eq_of_beq e
      rw [show Str.ofString "\n" = ⟨#[10]⟩ from by decide +kernel] at this
      injection this with this
      injection this with this
      injection this)
    refine cit_turn ok HL hc hn hi off B F X N H T hk hd hu (fun h' tk' oI'' t' hi' F' N' => ?_) ht
    refine wpAny_mono (turn k c m₁ h' tk' oI'' t' (by omega) hWc h34 h92 h10 hJ hi' F' N') (fun _ s₂ h₂ => wpAny_mono h₂ (fun f s₃ h₃ => ?_) fun _ _ x => x) fun _ _ x => x
    cases f with
    | next =>
      obtain ⟨h₄, tk₄, m₂, rfl, hJ', F'', N''⟩ := h₃
      exact ih (k + 1) m₂ h₄ tk₄ oI'' (by omega) hJ' (by rw [show j + 1 + (k + 1) = j + 1 + k + 1 from by omega]; exact hi') F'' N''
    | cont =>
      obtain ⟨h₄, tk₄, m₂, rfl, hJ', F'', N''⟩ := h₃
      exact ih (k + 1) m₂ h₄ tk₄ oI'' (by omega) hJ' (by rw [show j + 1 + (k + 1) = j + 1 + k + 1 from by omega]; exact hi') F'' N''
    | brk => exact h₃.elim
    | ret v => exact h₃.elim

noncomputable def cut (W : Str) (k : Nat) : Str := ⟨(W.cps.toList.take k).toArray⟩
theorem cut_zero (W : Str) : cut W 0 = Str.ofString "" := by
  rw [show Str.ofString "" = ⟨#[]⟩ from by decide +kernel]; simp [cut]
theorem cut_all (W : Str) : cut W W.length = W := by
  unfold cut
  rw [List.take_of_length_le (by simp [Str.length])]
theorem cut_len (W : Str) (k : Nat) : (cut W k).length ≤ W.length := by
  simp [cut, Str.length]; omega
theorem cut_succ {W : Str} {k c : Nat} (h : W.cps[k]? = some c) : cut W k ++ ⟨#[c]⟩ = cut W (k + 1) := by
  have h' : W.cps.toList[k]? = some c := by simpa using h
  apply Str.ext'
  rw [Str.cps_append]
  simp [cut, List.take_add_one, h']
theorem map_two {a b c d : Option Value} {x y : Str} {mm : Str → Option Value} : (fun z => if z = x then a else if z = y then b else if z = x then c else if z = y then d else mm z) = fun z => if z = x then a else if z = y then b else mm z := by
  funext z
  by_cases h1 : z = x
  · simp [h1]
  · by_cases h2 : z = y
    · simp [h1, h2]
    · simp [h1, h2]
theorem map_self {x y : Str} {mm : Str → Option Value} {a b : Option Value} (h1 : mm x = a) (h2 : mm y = b) : mm = fun z => if z = x then a else if z = y then b else mm z := by
  funext z
  by_cases e1 : z = x
  · simp [e1, h1]
  · by_cases e2 : z = y
    · subst e2; simp [e1, h2]
    · simp [e1, e2]

theorem quote_start {W : Str} {j : Nat} {mm : Str → Option Value} {tk0 : Tok} {v0 : Value} (ok : LexOk P) (HL : LamCon prog w mean mg mb P) (off : LexOff P ((It, citObj q (Str.ofString "") ts) :: (q, methodObj (.ref 35) (.ref P.lx)) :: news))
    (hW : ∀ k, k < W.length → ∃ c, Tx.cps[j + 1 + k]? = some c ∧ W.cps[k]? = some c ∧ c ≠ 34 ∧ c ≠ 92 ∧ c ≠ 10) (he : Tx.cps[j + 1 + W.length]? = some 34)
    (hi : StrIt oI Tx t (j + 1)) (F : Fr h₀ L s.heap mm) (N : News h₀ L s.heap (P.led w ws n ln t2 oI ((It, citObj q (Str.ofString "") ts) :: (q, methodObj (.ref 35) (.ref P.lx)) :: news)))
    (B : Below A₀ base outer h₀) (X : (hd.heap_1 w.params).In h₀) (H : CodeHd base (164, 160).fst (164, 160).snd)
    (T : Top topProg (looseW rowView [Str.ofString "COMPILER_FLAG_NAMES"] ++ List.map (fun x => x.name) (recsOf rowView) ++
      List.map (fun x => x.fst) (litsOf rowView) ++
    List.map (fun x => x.name) (clssOf rowView (looseW rowView [Str.ofString "COMPILER_FLAG_NAMES"]))) mean mg mb h₀) (hk : cs.kind = .function)
    (hd : dp + 3 < recursionLimit) (hu : un + 1 + 24 < cLine) (hm1 : mm (Str.ofString "token") = some (.str (Str.ofString "") tk0)) (hm2 : mm (Str.ofString "ch") = some v0)
    (turn : ∀ k c t0 v h tk oI' t', k < W.length → c ≠ 34 → c ≠ 92 → StrIt oI' Tx t (j + 1 + k + 1) → Fr h₀ L h (fun y => if y = Str.ofString "token" then some (.str (cut W k) t0) else if y = Str.ofString "ch" then some v else mm y) → News h₀ L h (P.led w ws n ln t2 oI' ((It, citObj q (Str.ofString "") ts) :: (q, methodObj (.ref 35) (.ref P.lx)) :: news)) →
      wpAny (model prog w) (ktrTop dp un gd cn cs L a ccd cl outer) (assign target (envX cn cs L a ccd cl) (.str ⟨#[c]⟩ t')) (fun _ s₂ => wpAny (model prog w) (ktrTop dp un gd cn cs L a ccd cl outer) (execs body (envX cn cs L a ccd cl)) (fun f s₃ => match f with
          | .next | .cont => ∃ h' tk' t0' v', s₃ = { s with heap := h', toks := tk' } ∧ Fr h₀ L h' (fun y => if y = Str.ofString "token" then some (.str (cut W k ++ ⟨#[c]⟩) t0') else if y = Str.ofString "ch" then some v' else mm y) ∧ News h₀ L h' (P.led w ws n ln t2 oI' ((It, citObj q (Str.ofString "") ts) :: (q, methodObj (.ref 35) (.ref P.lx)) :: news))
          | _ => False) (notedBy (model prog w) (ktrTop dp un gd cn cs L a ccd cl outer) (envX cn cs L a ccd cl) fun e s' => R (.error e) s') s₂) (notedBy (model prog w) (ktrTop dp un gd cn cs L a ccd cl outer) (envX cn cs L a ccd cl) fun e s' => R (.error e) s') { s with heap := h, toks := tk })
    (done : ∀ t0 v h tk oI' t', StrIt oI' Tx t (j + 1 + W.length + 1) → Fr h₀ L h (fun y => if y = Str.ofString "token" then some (.str W t0) else if y = Str.ofString "ch" then some v else mm y) → News h₀ L h (P.led w ws n ln t2 oI' ((It, citObj q (Str.ofString "") ts) :: (q, methodObj (.ref 35) (.ref P.lx)) :: news)) →
      wpAny (model prog w) (ktrTop dp un gd cn cs L a ccd cl outer) (assign target (envX cn cs L a ccd cl) (.str ⟨#[34]⟩ t')) (fun _ s₂ => wpAny (model prog w) (ktrTop dp un gd cn cs L a ccd cl outer) (execs body (envX cn cs L a ccd cl)) (fun f s₃ => match f with
          | .ret v => R (.ok (.ret v)) s₃
          | _ => False) (notedBy (model prog w) (ktrTop dp un gd cn cs L a ccd cl outer) (envX cn cs L a ccd cl) fun e s' => R (.error e) s') s₂) (notedBy (model prog w) (ktrTop dp un gd cn cs L a ccd cl outer) (envX cn cs L a ccd cl) fun e s' => R (.error e) s') { s with heap := h, toks := tk })
    (ht : ∀ v, letOwnedTupleGo target (.ref It) v = pure ()) :
      codeAny (model prog w) (ktrTop dp un gd cn cs L a ccd cl outer) (.forLoop target (.ref It) body orelse (envX cn cs L a ccd cl)) R s := by
  refine quote_loop (s := s) (W := W) (j := j) ok HL off hW he B X H T hk hd hu (fun k m' => ∃ t0 v, m' = fun y => if y = Str.ofString "token" then some (.str (cut W k) t0) else if y = Str.ofString "ch" then some v else mm y) ?_ ?_ ht W.length 0 mm s.heap s.toks oI (by omega) ⟨tk0, v0, by rw [cut_zero]; exact map_self hm1 hm2⟩ hi F N
  · rintro k c m₁ h tk oI' t' hkl hc h34 h92 h10 ⟨t0, v, rfl⟩ hi' F' N'
    refine wpAny_mono (turn k c t0 v h tk oI' t' hkl h34 h92 hi' F' N') (fun _ s₂ h₂ => wpAny_mono h₂ (fun f s₃ h₃ => ?_) fun _ _ x => x) fun _ _ x => x
    cases f with
    | next =>
      obtain ⟨h₄, tk₄, t0', v', e, F'', N''⟩ := h₃
      exact ⟨h₄, tk₄, _, e, ⟨t0', v', by rw [cut_succ hc]⟩, F'', N''⟩
    | cont =>
      obtain ⟨h₄, tk₄, t0', v', e, F'', N''⟩ := h₃
      exact ⟨h₄, tk₄, _, e, ⟨t0', v', by rw [cut_succ hc]⟩, F'', N''⟩
    | brk => exact h₃.elim
    | ret v => exact h₃.elim
  · rintro m₁ h tk oI' t' ⟨t0, v, rfl⟩ hi' F' N'
    rw [cut_all] at F'
    exact done t0 v h tk oI' t' hi' F' N'
end
end Mine
end

section
open PySem PySem.W PyProof.Rows PySem.Spec PySem.Calls PySem.Builtin
namespace Mine
theorem start_L5 : True := by
  w_top off
  trivial
local macro_rules | `(tactic| k_all) => `(tactic| first | assumption | (refine' allNe_of_lt ?h9 ?e9; (case h9 => assumption); (case e9 => omega)))
local macro_rules | `(tactic| k_room) => `(tactic| ktr_room)
local macro_rules | `(tactic| walk_at "mine sub") => `(tactic| first | exact fun _ h => h | (refine sub_cons (by k_mem) ?_; walk_at "mine sub") | (refine sub_tail ?_; walk_at "mine sub"))
local macro_rules | `(tactic| walk_at "truthy ref") => `(tactic| (k_here; (with_reducible show wpAny _ _ (truthy (Value.ref _)) _ _ _); k_dflt (refine' truthy_lst ?N ?hm ?hz ?_; (case N => k_asm); (case hm => k_mem); (case hz => (try simp only [List.length_cons, List.length_nil]); omega); (try simp only [List.isEmpty_cons, List.isEmpty_nil, Bool.not_false, Bool.not_true]))))
local macro_rules | `(tactic| walk_at "call builtin:iter") => `(tactic| (k_here; (with_reducible show wpAny _ _ (call (Value.builtin "iter") [Value.ref _, Value.str _ _]) _ _ _); k_dflt (refine' iter_call ?F ?N ?q ?_; (case F => k_asm); (case N => k_asm); (case q => k_mem)); intro D' h' F' N' l1; (try k_lt l1)))

theorem fr_map {h₀ h : Heap} {L : Addr} {m m' : Str → Option Value} (F : Fr h₀ L h m) (e : m = m') : Fr h₀ L h m' := e ▸ F
theorem ne_cons {d : Addr} {q : Addr × Obj} {l : List (Addr × Obj)} (h : q.1 ≠ d) (h2 : ∀ p ∈ l, p.1 ≠ d) : ∀ p ∈ q :: l, p.1 ≠ d := fun p hp => by
  rcases List.mem_cons.mp hp with rfl | hp
  · exact h
  · exact h2 p hp
theorem one_eq {c d : Nat} {x : Str} (e : ((⟨#[c]⟩ : Str) == x) = true) (h : x = ⟨#[d]⟩) : c = d := by
  have := eq_of_beq e
  rw [h] at this
  injection this with this
  injection this with this
  injection this
local macro_rules | `(tactic| walk_at "ite") => `(tactic| first | (refine ite_not ?hno ?_; (case hno => with_reducible assumption)) | (refine ite_yes ?hyes ?_; (case hyes => with_reducible assumption)) | (k_closed; first | refine ite_not (by decide +kernel) ?_ | refine ite_yes (by decide +kernel) ?_))
set_option maxHeartbeats 8000000 in
theorem tok_con {prog w mean mg mb} (P : LexP) (ok : LexOk P) (HL : LamCon prog w mean mg mb P) (Tx W : Str) (t : Tok) (j : Nat) (oI : Obj) (n : Nat) (ln : Int) (t2 : Tok) (news : List (Addr × Obj)) (hi : StrIt oI Tx t j) (off : LexOff P news)
    (hq : Tx.cps[j]? = some 34) (hW : ∀ k, k < W.length → ∃ c, Tx.cps[j + 1 + k]? = some c ∧ W.cps[k]? = some c ∧ c ≠ 34 ∧ c ≠ 92 ∧ c ≠ 10) (he : Tx.cps[j + 1 + W.length]? = some 34) (hWl : W.length ≤ 100) :
    Con prog w mean mg mb 42 [.ref P.lx] (P.led w [] n ln t2 oI news) 4 40 (fun r news' => ∃ oI' t', StrIt oI' Tx t (j + W.length + 2) ∧ r = .str W t' ∧ news' = P.led w [] n ln t2 oI' news) := by
  unfold Con
  refine rowSay ?_
  k_fill
  intro _
  intro dp un gd cn cs a ccd cl outer A₀ base h₀ L m s R B F X N C0 T hk hd hu hret
  obtain ⟨o1, o2, o3, o4, o5, o6, o7, o8, rd⟩ := id ok
  have off1 := off.lp
  have off2 := off.ld
  have off3 := off.I
  k_dflt cell_enter
  k_steps
  refine wpAny_For ?_
  k_steps
  (rename News _ _ _ _ => N1)
  (rename Fr _ _ _ _ => F1)
  refine pyIter_call N1 (by k_mem) ?_
  refine cit_turn ok HL hq (by decide +kernel) hi (off.two ?a1 ?a2 ?a3 ?b1 ?b2 ?b3) (by k_asm) F1 (by k_asm) (led_rot N1) C0 (by k_asm) rfl (by ktr_room) (by ktr_units) ?_ (fun _ => rfl)
  case a1 => k_ne
  case a2 => k_ne
  case a3 => k_ne
  case b1 => k_ne
  case b2 => k_ne
  case b3 => k_ne
  intro h2 tk2 oI2 tt2 hi2 F2 N2
  k_steps
  refine wpAny_For ?_
  k_steps
  (rename News _ _ _ _ => N3)
  (rename Fr _ _ _ _ => F3)
  refine pyIter_call N3 (by k_mem) ?_
  refine quote_start (W := W) (j := j) ok HL (off.two ?a1 ?a2 ?a3 ?b1 ?b2 ?b3) hW he hi2 F3 N3 (by k_asm) (by k_asm) C0 (by k_asm) rfl (by ktr_room) (by ktr_units) rfl rfl ?turn ?done (fun _ => rfl)
  case a1 => k_ne
  case a2 => k_ne
  case a3 => k_ne
  case b1 => k_ne
  case b2 => k_ne
  case b3 => k_ne
  case turn =>
    intro k c t0 v h3 tk3 oI3 tt3 hkl h34 h92 hi3 F4 N4
    have q1 : ¬ (((⟨#[c]⟩ : Str) == Str.ofString "\"") = true) := fun e => h34 (one_eq e (by decide +kernel))
    have q2 : ¬ (((⟨#[c]⟩ : Str) == Str.ofString "\\") = true) := fun e => h92 (one_eq e (by decide +kernel))
    have q3 := cut_len W k
    k_steps
    · (rename Fr _ _ _ _ => F5)
      refine fr_map F5 (Eq.trans map_two ?_)
      rfl
    · k_asm
  case done =>
    intro t0 v h3 tk3 oI3 tt3 hi3 F4 N4
    k_steps
    (rename News _ _ _ _ => N5)
    exact hret _ _ _ _ (by k_asm) (led_unrot N5) ⟨oI3, _, by rw [show j + W.length + 2 = j + 1 + W.length + 1 from by omega]; exact hi3, rfl, rfl⟩
set_option maxHeartbeats 8000000 in
theorem tok_nl {prog w mean mg mb} (P : LexP) (ok : LexOk P) (HL : LamCon prog w mean mg mb P) (Tx W : Str) (t : Tok) (i0 j : Nat) (oI : Obj) (n : Nat) (ln : Int) (t2 : Tok) (news : List (Addr × Obj)) (hi : StrIt oI Tx t i0) (hj : j = i0 + 1) (hq0 : Tx.cps[i0]? = some 10) (off : LexOff P news)
    (hq : Tx.cps[j]? = some 34) (hW : ∀ k, k < W.length → ∃ c, Tx.cps[j + 1 + k]? = some c ∧ W.cps[k]? = some c ∧ c ≠ 34 ∧ c ≠ 92 ∧ c ≠ 10) (he : Tx.cps[j + 1 + W.length]? = some 34) (hWl : W.length ≤ 100) :
    Con prog w mean mg mb 42 [.ref P.lx] (P.led w [] n ln t2 oI news) 4 40 (fun r news' => ∃ oI' t' t2', StrIt oI' Tx t (j + W.length + 2) ∧ r = .str W t' ∧ news' = P.led w [] n (ln + 1) t2' oI' news) := by
  unfold Con
  refine rowSay ?_
  k_fill
  intro _
  intro dp un gd cn cs a ccd cl outer A₀ base h₀ L m s R B F X N C0 T hk hd hu hret
  obtain ⟨o1, o2, o3, o4, o5, o6, o7, o8, rd⟩ := id ok
  have off1 := off.lp
  have off2 := off.ld
  have off3 := off.I
  subst hj
  k_dflt cell_enter
  k_steps
  refine wpAny_For ?_
  k_steps
  (rename News _ _ _ _ => N1)
  (rename Fr _ _ _ _ => F1)
  refine pyIter_call N1 (by k_mem) ?_
  refine cit_nl ok HL hq0 (by decide +kernel) hi (off.two ?a1 ?a2 ?a3 ?b1 ?b2 ?b3) (by k_asm) F1 (by k_asm) (led_rot N1) C0 (by k_asm) rfl (by ktr_room) (by ktr_units) ?_ (fun _ => rfl)
  case a1 => k_ne
  case a2 => k_ne
  case a3 => k_ne
  case b1 => k_ne
  case b2 => k_ne
  case b3 => k_ne
  intro h1 tk1 oI1 tt1 t21 hi1 F0 N0
  k_steps
  (rename News _ _ _ _ => N1b)
  (rename Fr _ _ _ _ => F1b)
  refine cit_turn ok HL hq (by decide +kernel) hi1 (off.two ?a1 ?a2 ?a3 ?b1 ?b2 ?b3) (by k_asm) F1b (by k_asm) N1b C0 (by k_asm) rfl (by ktr_room) (by ktr_units) ?_ (fun _ => rfl)
  case a1 => k_ne
  case a2 => k_ne
  case a3 => k_ne
  case b1 => k_ne
  case b2 => k_ne
  case b3 => k_ne
  intro h2 tk2 oI2 tt2 hi2 F2 N2
  k_steps
  refine wpAny_For ?_
  k_steps
  (rename News _ _ _ _ => N3)
  (rename Fr _ _ _ _ => F3)
  refine pyIter_call N3 (by k_mem) ?_
  refine quote_start (W := W) (j := i0 + 1) ok HL (off.two ?a1 ?a2 ?a3 ?b1 ?b2 ?b3) hW he hi2 F3 N3 (by k_asm) (by k_asm) C0 (by k_asm) rfl (by ktr_room) (by ktr_units) rfl rfl ?turn ?done (fun _ => rfl)
  case a1 => k_ne
  case a2 => k_ne
  case a3 => k_ne
  case b1 => k_ne
  case b2 => k_ne
  case b3 => k_ne
  case turn =>
    intro k c t0 v h3 tk3 oI3 tt3 hkl h34 h92 hi3 F4 N4
    have q1 : ¬ (((⟨#[c]⟩ : Str) == Str.ofString "\"") = true) := fun e => h34 (one_eq e (by decide +kernel))
    have q2 : ¬ (((⟨#[c]⟩ : Str) == Str.ofString "\\") = true) := fun e => h92 (one_eq e (by decide +kernel))
    have q3 := cut_len W k
    k_steps
    · (rename Fr _ _ _ _ => F5)
      refine fr_map F5 (Eq.trans map_two ?_)
      rfl
    · k_asm
  case done =>
    intro t0 v h3 tk3 oI3 tt3 hi3 F4 N4
    k_steps
    (rename News _ _ _ _ => N5)
    exact hret _ _ _ _ (by k_asm) (led_unrot N5) ⟨oI3, _, _, by rw [show i0 + 1 + W.length + 2 = i0 + 1 + 1 + W.length + 1 from by omega]; exact hi3, rfl, rfl⟩
set_option maxHeartbeats 8000000 in
theorem tok_end {prog w mean mg mb} (P : LexP) (ok : LexOk P) (HL : LamCon prog w mean mg mb P) (HE : LamEnd prog w mean mg mb P) (Tx : Str) (t : Tok) (j : Nat) (oI : Obj) (n : Nat) (ln : Int) (t2 : Tok) (news : List (Addr × Obj)) (hi : StrIt oI Tx t j) (off : LexOff P news)
    (hq : Tx.cps[j]? = some 10) (he : Tx.cps[j + 1]? = none) :
    Con prog w mean mg mb 42 [.ref P.lx] (P.led w [] n ln t2 oI news) 4 40 (fun r news' => ∃ t' t2', r = .str (Str.ofString "") t' ∧ news' = P.ledX w [] n (ln + 1) t2' news) := by
  unfold Con
  refine rowSay ?_
  k_fill
  intro _
  intro dp un gd cn cs a ccd cl outer A₀ base h₀ L m s R B F X N C0 T hk hd hu hret
  obtain ⟨o1, o2, o3, o4, o5, o6, o7, o8, rd⟩ := id ok
  have off1 := off.lp
  have off2 := off.ld
  have off3 := off.I
  k_dflt cell_enter
  k_steps
  refine wpAny_For ?_
  k_steps
  (rename News _ _ _ _ => N1)
  (rename Fr _ _ _ _ => F1)
  refine pyIter_call N1 (by k_mem) ?_
  refine cit_nl ok HL hq (by decide +kernel) hi (off.two ?a1 ?a2 ?a3 ?b1 ?b2 ?b3) (by k_asm) F1 (by k_asm) (led_rot N1) C0 (by k_asm) rfl (by ktr_room) (by ktr_units) ?_ (fun _ => rfl)
  case a1 => k_ne
  case a2 => k_ne
  case a3 => k_ne
  case b1 => k_ne
  case b2 => k_ne
  case b3 => k_ne
  intro h1 tk1 oI1 tt1 t21 hi1 F0 N0
  k_steps
  (rename News _ _ _ _ => N1b)
  (rename Fr _ _ _ _ => F1b)
  refine cit_end ok HE he hi1 (off.two ?a1 ?a2 ?a3 ?b1 ?b2 ?b3) ?hIt (by k_asm) F1b (by k_asm) N1b C0 (by k_asm) rfl (by ktr_room) (by ktr_units) ?_ (fun _ => rfl)
  case a1 => k_ne
  case a2 => k_ne
  case a3 => k_ne
  case b1 => k_ne
  case b2 => k_ne
  case b3 => k_ne
  case hIt =>
    repeat (refine ne_cons (by k_ne) ?_)
    (rename (_ ∧ _ ∧ _ ∧ _) => l9)
    exact allNe_of_lt l9.2.2.2.2.2.2.2.2.2.2 (Nat.le_refl _)
  intro h2 tk2 F2 N2
  k_steps
  exact hret _ _ _ _ (by k_asm) (by k_asm) ⟨_, _, rfl, rfl⟩

end Mine
end

section
open PySem PySem.W PyProof.Rows PySem.Spec PySem.Calls PySem.Builtin
namespace Mine
theorem start_L6 : True := by
  w_top off
  trivial
local macro_rules | `(tactic| walk_at "mine pad 0") => `(tactic| fail)
local macro_rules | `(tactic| k_all) => `(tactic| first | assumption | (refine' allNe_of_lt ?h9 ?e9; (case h9 => assumption); (case e9 => omega)))
local macro_rules | `(tactic| k_room) => `(tactic| ktr_room)
local macro_rules | `(tactic| walk_at "call builtin:iter") => `(tactic| (k_here; (with_reducible show wpAny _ _ (call (Value.builtin "iter") [Value.str _ _]) _ _ _); k_dflt (refine' iter_str ?hx (by k_asm) (by k_asm) ?_; (case hx => assumption)); intro D' h' o' si' F' N' l1; (try k_lt l1)))
local macro_rules | `(tactic| walk_at "mine enterC") => `(tactic| (refine' code_defC ?k1 ?k2 ?k3 ?k4 ?k5 ?kA ?kF ?kK ?k6 ?k7 ?k8 ?k9 ?kB ?kD ?_ ?c2 ?c3 ?c4; (case kA => exact rfl); (case kF => exact rfl); (case kK => assumption); (case k1 => k_asm); (case k2 => k_asm); (case k3 => k_asm); (case k4 => k_asm); (case k5 => k_asm); (case k6 => k_is); (case k7 => k_is); (case k8 => ktr_room); (case k9 => exact BindsTo.of_eq rfl); (case kB => exact rfl); (case kD => decide +kernel); (case c2 => exact rfl); (case c3 => exact rfl); (case c4 => exact rfl); k_whole; intro g' L' h' tk' cells' FG' F' N' Y' B' X' T' l1; (try k_lt l1); k_cells Y'; (try simp only [List.cons_append, List.nil_append] at N'); (try dsimp only); (try k_lift B'); (try k_fold)))

local macro_rules | `(tactic| walk_at "mine lam") => `(tactic| (refine' kla_code ?k1 ?k2 ?k3 ?k4 ?k5 ?kA ?kF ?kK ?k6 ?k7 ?k8 ?k9 ?kB ?_ ?c2 ?c3 ?c4 ?c5; (case kA => exact rfl); (case kF => exact rfl); (case kK => assumption); (case k1 => k_asm); (case k2 => k_asm); (case k3 => k_asm); (case k4 => k_asm); (case k5 => k_asm); (case k6 => k_mem); (case k7 => exact codeRec_news (by k_asm) (by k_mem) (by assumption) (by assumption)); (case k8 => ktr_room); (case k9 => exact rfl); (case c5 => decide); (case kB => exact locs rfl); (case c2 => exact rfl); (case c3 => exact rfl); (case c4 => exact rfl); k_whole; intro g' L' h' FG' F' N' B' X' T'; (try dsimp only); (try k_lift B'); (try k_fold)))
local macro_rules | `(tactic| walk_at "call builtin:next") => `(tactic| (k_here; (with_reducible show wpAny _ _ (call (Value.builtin "next") [Value.ref _, _]) _ _ _); k_dflt (first
  | (refine' next_str ?hx ?hi ?F ?N ?U ?_; (case hx => assumption); (case hi => assumption); (case F => k_asm); (case N => k_asm); (case U => k_updF); intro h' o' tk' t' hi' F' N'; (try dsimp only at N'))
  | ((with_reducible rename News _ _ _ _ => N'); (with_reducible rename Fr _ _ _ _ => F'); refine' next_str_end (pre := [_, _, _, _, _, _, _]) ?hh ?hx ?hi F' N' ?ha ?hb ?_; (case hh => exact rfl); (case hx => assumption); (case hi => assumption); (case ha => k_all); (case hb => k_all); intro h' F' N'; (try dsimp only [List.cons_append, List.nil_append] at N')))))

theorem lexer_end {G : Prop} {w : World} {h₀ h : Heap} {L lp lx ld f c lq sx sd I ce : Addr} {n0 en : Nat} {t1 t2 t3 t4 t5 t6 : Tok} {fd : FuncData} {oc olq oI oce : Obj} {es : List DictEntry} {r : List (Addr × Obj)}
    (N : News h₀ L h ((lp, W.listOf (#[] : Array Value) n0) :: (lx, instObj 52 ld) :: (ld, lexDict w 1 sx lp t1 t2 t3 t4 t5 t6) :: (f, { cls := .type "function", data := .func fd }) :: (c, oc) :: (lq, olq) :: (sx, instObj 52 sd) :: (sd, dictOf es en) :: (I, oI) :: (ce, oce) :: r))
    (k : ∀ P : LexP, P = { lx := lx, ld := ld, lp := lp, f := f, c := c, sx := sx, sd := sd, I := I, ce := ce, fd := fd, oc := oc, oce := oce, es := es, en := en, t1 := t1, t3 := t3, t4 := t4, t5 := t5, t6 := t6 } → News h₀ L h (P.led w [] n0 1 t2 oI r) → G) : G :=
  k _ rfl fun p hp => N p (mem_tail (l := [_, _, _, _, _]) (fun _ h => List.mem_cons_of_mem _ h) hp)

set_option maxHeartbeats 8000000 in
theorem lexer_con {prog w mean mg mb} (Tx : Str) (t : Tok) (hA : Tx.cps.all (· < 128) = true) (news) (h160 : ∀ p ∈ news, p.1 ≠ 160) :
    Con prog w mean mg mb 165 [.str Tx t] ((160, tabObj #[]) :: news) 4 30 (fun r news' => ∃ P oI t2 n tab, r = .ref P.lx ∧ StrIt oI Tx t 0 ∧ LexOk P ∧ LexOff P ((160, tabObj tab) :: news) ∧ LamCon prog w mean mg mb P ∧ LamEnd prog w mean mg mb P ∧
      news' = P.led w [] n 1 t2 oI ((160, tabObj tab) :: news)) := by
  unfold Con
  refine rowSay ?_
  k_fill
  intro _
  intro dp un gd cn cs a ccd cl outer A₀ base h₀ L m s R B F X N C0 T hk hd hu hret
  k_dflt (walk_at "mine enterC")
  (rename (_ < _ ∧ AllLt _ _) => l1')
  have hL := l1'.2
  k_steps
  (rename News _ _ _ _ => N9)
  refine lexer_end N9 fun P hP N10 => ?_
  refine hret _ _ _ _ (by k_asm) N10 ⟨P, _, _, _, _, ?_, ?_, ?_, ?_, ?_, ?_, rfl⟩
  · subst hP; rfl
  · assumption
  · subst hP
    constructor <;> first | (dsimp only; omega) | k_get
  · subst hP
    constructor
    · refine ne_cons (by k_ne) ?_
      exact allNe_of_lt hL (by dsimp only; omega)
    · refine ne_cons (by k_ne) ?_
      exact allNe_of_lt hL (by dsimp only; omega)
    · refine ne_cons (by k_ne) ?_
      exact allNe_of_lt hL (by dsimp only; omega)
  · subst hP
    clear N10 N9 N F B X T hret
    unfold LamCon
    intro Tx' t' i ch oI ws n ln t2 tk news' hx hi off
    have off3 := off.I
    unfold Con
    intro dp un gd cn cs a ccd cl outer A₀ base h₀ L m s R B F X N C0 T hk hd hu hret
    k_dflt (walk_at "mine lam")
    k_steps
    exact hret _ _ _ _ (by k_asm) (by k_asm) ⟨_, _, ‹_›, rfl, rfl⟩
  · subst hP
    clear N10 N9 N F B X T hret
    unfold LamEnd
    intro Tx' t' i oI ws n ln t2 tk news' hx hi off
    have off3 := off.I
    unfold Con
    intro dp un gd cn cs a ccd cl outer A₀ base h₀ L m s R B F X N C0 T hk hd hu hret
    k_dflt (walk_at "mine lam")
    k_steps
    exact hret _ _ _ _ (by k_asm) (by k_asm) ⟨_, rfl, rfl⟩
end Mine
end

section
open PySem PySem.W PyProof.Rows PySem.Spec PySem.Calls PySem.Builtin
namespace Mine
/-- the tree of pairs, level by level -/
noncomputable def row (p q : Int) : Nat → List (Int × Int)
  | 0 => [(p, q)]
  | k + 1 => (row p q k).flatMap fun x => [(x.1, x.1 + x.2), (x.1 + x.2, x.2)]
noncomputable def tab (p q : Int) : List (Int × Int) := row p q 0 ++ row p q 1 ++ row p q 2 ++ row p q 3
noncomputable def nd (p q : Int) (n : Nat) : Int × Int := (tab p q).getD (n - 1) (0, 0)
theorem lt8 : ∀ n < 8, 1 ≤ n → n = 1 ∨ n = 2 ∨ n = 3 ∨ n = 4 ∨ n = 5 ∨ n = 6 ∨ n = 7 := by decide +kernel
theorem nd_kids {p q : Int} {n : Nat} (h1 : 1 ≤ n) (h : n < 8) : nd p q (2 * n) = ((nd p q n).1, (nd p q n).1 + (nd p q n).2) ∧ nd p q (2 * n + 1) = ((nd p q n).1 + (nd p q n).2, (nd p q n).2) := by
  have := lt8 n h h1
  rcases this with h | h | h | h | h | h | h <;> subst h <;> exact ⟨rfl, rfl⟩
noncomputable def Good (M : Int) (x : Int × Int) : Prop := (0 ≤ x.1 ∧ x.1 < M) ∧ (0 ≤ x.2 ∧ x.2 < M)
theorem good_two {M : Int} {a b : Int} (h : Good M (a, b)) : Good (M + M) (a, a + b) ∧ Good (M + M) (a + b, b) := by
  obtain ⟨⟨h1, h2⟩, h3, h4⟩ := h
  dsimp only at h1 h2 h3 h4
  have e : 0 ≤ a + b ∧ a + b < M + M := ⟨Int.add_nonneg h1 h3, Int.add_lt_add h2 h4⟩
  have m : ∀ c, 0 ≤ c → c < M → c < M + M := fun c h0 hc => Int.lt_trans hc (by omega)
  exact ⟨⟨⟨h1, m a h1 h2⟩, e⟩, ⟨e, h3, m b h3 h4⟩⟩
theorem good_row {M p q : Int} {k : Nat} (h : ∀ x ∈ row p q k, Good M x) : ∀ x ∈ row p q (k + 1), Good (M + M) x := by
  intro x hx
  obtain ⟨y, hy, hx⟩ := List.mem_flatMap.mp hx
  obtain ⟨g1, g2⟩ := good_two (h y hy)
  rcases List.mem_cons.mp hx with h | h
  · rw [h]; exact g1
  · rw [List.mem_singleton.mp h]; exact g2
theorem Good.le {M M' : Int} {x : Int × Int} (h : Good M x) (hM : M ≤ M') : Good M' x := ⟨⟨h.1.1, Int.lt_of_lt_of_le h.1.2 hM⟩, h.2.1, Int.lt_of_lt_of_le h.2.2 hM⟩
theorem nd_bound {p q : Int} (hp : 0 ≤ p ∧ p < 1000) (hq : 0 ≤ q ∧ q < 1000) {n : Nat} (_ : 1 ≤ n) (_ : n < 16) : 0 ≤ (nd p q n).1 ∧ (nd p q n).1 < 10 ^ 6 ∧ 0 ≤ (nd p q n).2 ∧ (nd p q n).2 < 10 ^ 6 := by
  have h0 : ∀ x ∈ row p q 0, Good 1000 x := fun x hx => by rw [List.mem_singleton.mp hx]; exact ⟨hp, hq⟩
  have h1 := good_row h0
  have h2 := good_row h1
  have h3 := good_row h2
  have ht : ∀ x ∈ tab p q, Good (10 ^ 6) x := fun x hx => by
    rcases List.mem_append.mp hx with hx | hx
    · rcases List.mem_append.mp hx with hx | hx
      · rcases List.mem_append.mp hx with hx | hx
        · exact (h0 x hx).le (by decide)
        · exact (h1 x hx).le (by decide)
      · exact (h2 x hx).le (by decide)
    · exact (h3 x hx).le (by decide)
  have hg : Good (10 ^ 6) (nd p q n) := by
    unfold nd
    rw [List.getD_eq_getElem?_getD]
    cases e : (tab p q)[n - 1]? with
    | none => exact ⟨by decide, by decide⟩
    | some x => exact ht x (List.mem_of_getElem? e)
  exact ⟨hg.1.1, hg.1.2, hg.2.1, hg.2.2⟩
/-- which numbers wait before turn n -/
noncomputable def qi (E n : Nat) : List Nat := if n = 1 then [] else List.range' n (min n (E - n))
theorem qi_facts : ∀ E ∈ [4, 8, 16], ∀ n, n < 16 → 2 ≤ n → n < E → qi E n = n :: (qi E n).tail := by decide +kernel
theorem qi_push : ∀ E ∈ [4, 8, 16], ∀ n, n < 16 → 1 ≤ n → n < E → 2 * n < E → qi E (n + 1) = (qi E n).tail ++ [2 * n, 2 * n + 1] := by decide +kernel
theorem qi_rest : ∀ E ∈ [4, 8, 16], ∀ n, n < 16 → 1 ≤ n → n < E → ¬ 2 * n < E → qi E (n + 1) = (qi E n).tail := by decide +kernel
theorem qi_len : ∀ E ∈ [4, 8, 16], ∀ n, n < 17 → (qi E n).length ≤ 16 := by decide +kernel
theorem qi_end : ∀ E ∈ [4, 8, 16], qi E E = [] := by decide +kernel
noncomputable def WordsAre : List Value → List (Int × Int) → Prop
  | [], [] => True
  | v :: vs, x :: xs => (∃ t, v = .str (word x.1 x.2) t) ∧ WordsAre vs xs
  | _, _ => False
theorem WordsAre.length : ∀ {vs : List Value} {xs : List (Int × Int)}, WordsAre vs xs → vs.length = xs.length
  | [], [], _ => rfl
  | _ :: _, _ :: _, h => by rw [List.length_cons, List.length_cons, WordsAre.length h.2]
  | [], _ :: _, h => h.elim
  | _ :: _, [], h => h.elim
theorem WordsAre.snoc {v : Value} {x : Int × Int} (hv : ∃ t, v = .str (word x.1 x.2) t) : ∀ {vs : List Value} {xs : List (Int × Int)}, WordsAre vs xs → WordsAre (vs ++ [v]) (xs ++ [x])
  | [], [], _ => ⟨hv, trivial⟩
  | _ :: _, _ :: _, h => ⟨h.1, WordsAre.snoc hv h.2⟩
  | [], _ :: _, h => h.elim
  | _ :: _, [], h => h.elim

noncomputable def offs (Ws : List Str) (i : Nat) : Nat := ((Ws.take i).map (fun W => W.length + 3)).sum
theorem offs_succ {Ws : List Str} {i : Nat} {W : Str} (h : Ws[i]? = some W) : offs Ws (i + 1) = offs Ws i + W.length + 3 := by
  unfold offs
  rw [List.take_add_one, h]
  simp
  omega
structure TextOk (Tx : Str) (Ws : List Str) : Prop where
  q : ∀ i W, Ws[i]? = some W → Tx.cps[offs Ws i]? = some 34
  ch : ∀ i W, Ws[i]? = some W → ∀ k, k < W.length → ∃ c, Tx.cps[offs Ws i + 1 + k]? = some c ∧ W.cps[k]? = some c ∧ c ≠ 34 ∧ c ≠ 92 ∧ c ≠ 10
  e : ∀ i W, Ws[i]? = some W → Tx.cps[offs Ws i + 1 + W.length]? = some 34
  nl : ∀ i W, Ws[i]? = some W → Tx.cps[offs Ws i + W.length + 2]? = some 10
  fin : Tx.cps[offs Ws Ws.length]? = none
  short : ∀ (i : Nat) W, Ws[i]? = some W → W.length ≤ 100
noncomputable def Ready (Tx : Str) (t : Tok) (Ws : List Str) (i : Nat) (oI : Obj) (ln : Int) : Prop := (i = 0 ∧ StrIt oI Tx t 0 ∧ ln = 1) ∨ (1 ≤ i ∧ StrIt oI Tx t (offs Ws i - 1) ∧ ln = i)
noncomputable def Turn (Tx : Str) (t : Tok) (Ws : List Str) (i k : Nat) (oI : Obj) (ln : Int) : Prop := if k = 0 then Ready Tx t Ws i oI ln else Ready Tx t Ws (i + 1) oI ln
theorem Con.weaken {prog w mean mg mb f args news D U D' U'} {post post' : Value → List (Addr × Obj) → Prop} (C : Con prog w mean mg mb f args news D U post) (hD : D ≤ D') (hU : U ≤ U') (h : ∀ r n, post r n → post' r n) : Con prog w mean mg mb f args news D' U' post' :=
  fun dp un gd cn cs a ccd cl outer A₀ base h₀ L m s R B F X N H T hk hd hu hr => C dp un gd cn cs a ccd cl outer A₀ base h₀ L m s R B F X N H T hk (by omega) (by omega) fun r n h' tk' F' N' p => hr r n h' tk' F' N' (h r n p)

theorem get_any {prog w mean mg mb} (P : LexP) (ok : LexOk P) (HL : LamCon prog w mean mg mb P) {Tx : Str} {t : Tok} {Ws : List Str} (TO : TextOk Tx Ws) {i k E : Nat} {p q : Int} {oI : Obj} {ws : List Value} {n : Nat} {ln : Int} {t2 : Tok} {tl : List (Addr × Obj)}
    (hW : Ws[i]? = some (word p q)) (hE : E ∈ [4, 8, 16]) (hk : k + 1 < E) (hT : Turn Tx t Ws i k oI ln) (hws : WordsAre ws ((qi E (k + 1)).map (nd p q))) (off : LexOff P tl) :
    Con prog w mean mg mb 42 [.ref P.lx] (P.led w ws n ln t2 oI tl) 4 40 (fun r news' => ∃ oI' t' t2' n' ws', Ready Tx t Ws (i + 1) oI' ((i : Int) + 1) ∧ r = .str (word (nd p q (k + 1)).1 (nd p q (k + 1)).2) t' ∧
      WordsAre ws' ((qi E (k + 1)).tail.map (nd p q)) ∧ news' = P.led w ws' n' ((i : Int) + 1) t2' oI' tl) := by
  have hE16 : E ≤ 16 := by
    simp only [List.mem_cons, List.not_mem_nil, or_false] at hE; omega
  by_cases hk0 : k = 0
  · subst hk0
    have e0 : qi E (0 + 1) = [] := rfl
    rw [e0] at hws ⊢
    cases ws with
    | cons v vs => exact hws.elim
    | nil =>
      have hT' : Ready Tx t Ws i oI ln := hT
      rcases hT' with ⟨hi0, hi, hl⟩ | ⟨hi1, hi, hl⟩
      · subst hi0
        refine Con.weaken (tok_con P ok HL Tx (word p q) t (offs Ws 0) oI n ln t2 tl hi off (TO.q 0 _ hW) (TO.ch 0 _ hW) (TO.e 0 _ hW) (TO.short 0 _ hW)) (Nat.le_refl _) (Nat.le_refl _) ?_
        rintro r nn ⟨oI', t', hi', rfl, rfl⟩
        refine ⟨oI', t', t2, n, [], .inr ⟨by omega, ?_, by simp⟩, rfl, trivial, by rw [hl]; rfl⟩
        rw [offs_succ hW]; exact hi'
      · obtain ⟨j, rfl⟩ : ∃ j, i = j + 1 := ⟨i - 1, by omega⟩
        have hlt : j < Ws.length := by
          have := (List.getElem?_eq_some_iff.mp hW).1
          omega
        have hV : Ws[j]? = some Ws[j] := by simp [hlt]
        have e1 := offs_succ hV
        refine Con.weaken (tok_nl P ok HL Tx (word p q) t (offs Ws (j + 1) - 1) (offs Ws (j + 1)) oI n ln t2 tl hi (by omega) ?_ off (TO.q _ _ hW) (TO.ch _ _ hW) (TO.e _ _ hW) (TO.short _ _ hW)) (Nat.le_refl _) (Nat.le_refl _) ?_
        · have := TO.nl j _ hV
          rw [e1]
          simpa [show offs Ws j + Ws[j].length + 3 - 1 = offs Ws j + Ws[j].length + 2 from by omega] using this
        · rintro r nn ⟨oI', t', t2', hi', rfl, rfl⟩
          refine ⟨oI', t', t2', n, [], .inr ⟨by omega, ?_, by simp⟩, rfl, trivial, by rw [hl]⟩
          rw [offs_succ hW]; exact hi'
  · have hT' : Ready Tx t Ws (i + 1) oI ln := by
      unfold Turn at hT
      rw [if_neg hk0] at hT
      exact hT
    have hq := qi_facts E hE (k + 1) (by omega) (by omega) (by omega)
    rw [hq] at hws
    have hwl := qi_len E hE (k + 1) (by omega)
    cases ws with
    | nil => exact hws.elim
    | cons v vs =>
      obtain ⟨⟨tv, rfl⟩, hvs⟩ := hws
      have hl : ln = (i : Int) + 1 := by
        rcases hT' with ⟨h, _⟩ | ⟨_, _, h⟩
        · omega
        · rw [h]; simp
      subst hl
      have hln : vs.length ≤ 100 := by
        have h1 := WordsAre.length hvs
        rw [hq] at hwl
        simp at h1 hwl
        omega
      refine Con.weaken (get_push_con (.str (word (nd p q (k + 1)).1 (nd p q (k + 1)).2) tv) vs hln n P.lx P.ld P.lp P.sx _ P.t1 t2 P.t3 P.t4 P.t5 P.t6 ok.o7 ok.o8 _ ?_) (by omega) (by omega) ?_
      · have o1 := ok.o1; have o2 := ok.o2; have o3 := ok.o3; have o4 := ok.o4; have o5 := ok.o5; have o6 := ok.o6; have o7 := ok.o7; have o8 := ok.o8
        repeat (refine ne_cons (by k_ne) ?_)
        exact off.lp
      · rintro r nn ⟨rfl, rfl⟩
        exact ⟨oI, tv, t2, n + 1, vs, hT', rfl, hvs, rfl⟩
end Mine
end

section
open PySem PySem.W PyProof.Rows PySem.Spec PySem.Calls PySem.Builtin
namespace Mine
noncomputable def dat (u l k : Int) : Dat := .tuple [.tuple [.str (Str.ofString "one"), .int u], .tuple [.str (Str.ofString "two"), .int l], .int k]
noncomputable def part (p q ln : Int) (m : Nat) : List Dat := (List.range m).map fun k => dat (nd p q (k + 1)).1 (nd p q (k + 1)).2 ln
theorem part_succ (p q ln : Int) (m : Nat) : part p q ln (m + 1) = part p q ln m ++ [dat (nd p q (m + 1)).1 (nd p q (m + 1)).2 ln] := by
  simp [part, List.range_succ]
noncomputable def heardOf (trees : List (Int × Int × Nat)) : Nat → List Dat
  | 0 => []
  | i + 1 => heardOf trees i ++ (match trees[i]? with | some x => part x.1 x.2.1 ((i : Int) + 1) (2 ^ x.2.2 - 1) | none => [])

noncomputable def Agree (stored : List Str) (m₀ m : Str → Option Value) : Prop := ∀ z, stored.contains z = false → m z = m₀ z
theorem Agree.map {stored : List Str} {m₀ m : Str → Option Value} (h : Agree stored m₀ m) : m = fun z => if stored.contains z then m z else m₀ z := by
  funext z
  by_cases hz : stored.contains z = true
  · rw [if_pos hz]
  · rw [if_neg hz]; exact h z (by simpa using hz)
theorem Agree.refl (stored : List Str) (m : Str → Option Value) : Agree stored m m := fun _ _ => rfl
theorem Agree.put {stored : List Str} {m₀ m : Str → Option Value} {x : Str} {v : Option Value} (h : Agree stored m₀ m) (hx : stored.contains x = true) : Agree stored m₀ (fun y => if y = x then v else m y) := fun z hz => by
  have : z ≠ x := fun e => by rw [e, hx] at hz; cases hz
  show (if z = x then v else m z) = m₀ z
  rw [if_neg this]; exact h z hz

section
variable {prog : Program} {w : World} {A : Around} {E : Value → Shared → Prop} {s : Shared} {h₀ : Heap} {env : Env} {x : Str} {body : List Stmt} {Q : Flow → Shared → Prop} {m₀ : Str → Option Value} {news : List (Addr × Obj)} {r : Addr} {a₀ b₀ : Int} {t₀ u₀ v₀ : Tok} {n : Nat}
/-- a loop over a range by an invariant over the turn's number, the frame and the ledger -/
theorem range_iter (J : Nat → (Str → Option Value) → List (Addr × Obj) → Prop) (hh : A.handled = none) (hr : IsRange s.heap r a₀ b₀ 1 t₀ u₀ v₀) (hsmall : Builtin.Range.small a₀ b₀ 1 = true) (hsz : Builtin.Range.rangeSize a₀ b₀ 1 = (n : Int))
    (F : Fr h₀ env.locals s.heap m₀) (N : News h₀ env.locals s.heap news) (hj : J 0 m₀ news)
    (turn : ∀ i m₁ nx h tk own t, i < n → OwnOff own (nx.map (·.1)) → J i m₁ nx → Fr h₀ env.locals h (fun y => if y = x then some (.int (a₀ + (i : Int)) t) else m₁ y) → News h₀ env.locals h (nx ++ own) →
      wpAny (model prog w) A (execs body env) (InvPostG h₀ env.locals (J (i + 1)) own { s with heap := h, toks := tk } Q) E { s with heap := h, toks := tk })
    (done : ∀ m₁ nx h tk, J n m₁ nx → Fr h₀ env.locals h m₁ → News h₀ env.locals h nx → Q .next { s with heap := h, toks := tk }) :
    wpAny (model prog w) A (pyIter (.ref r)) (fun it s₂ => LoopAtV prog w A h₀ env x body Q E it s₂) E s := by
  refine wpAny_pyIter_range hr hsmall ?_
  have hnew := next_is_new F
  refine kdr_loop J (Walks.range hh s.heap.objs.size a₀ 1 n) (fun _ h => h) (fun _ h => h) ?_ ?_ ?_ ?_ ?_ (F.push _) (fun p hp => ⟨Heap.get?_push_of_some _ (N p hp).1, (N p hp).2⟩) hj ?_ ?_
  · intro i h hi b hb
    rw [List.mem_singleton.mp hb]
    exact ⟨_, hi⟩
  · intro hm
    exact absurd F.ns.lt ((List.mem_singleton.mp hm) ▸ Nat.lt_irrefl _)
  · intro b hb
    rw [List.mem_singleton.mp hb]
    exact hnew
  · intro p hp hI
    exact absurd (Heap.lt_size (N p hp).1) ((List.mem_singleton.mp hI) ▸ Nat.lt_irrefl _)
  · show IsRangeIter _ _ _ _ _
    rw [hsz]
    simpa using Heap.get?_push_size _ rfl
  · rintro i v m₁ nx h tk own hi ⟨t, rfl⟩ hoff hJ F₁ N₁
    rw [Int.mul_one] at F₁
    exact turn i m₁ nx h tk own t hi hoff hJ F₁ N₁
  · intro m₁ nx h tk hJ F₁ N₁
    exact done m₁ nx h tk hJ F₁ N₁
theorem pow_is {t u : Tok} {e d : Int} {Q : Value → Shared → Prop} (hd : 0 ≤ d) (hd2 : d ≤ 1000) (he : (2 : Int) ^ d.toNat = e) (h : Q (.int e s.toks) { s with toks := s.toks + 1 }) : wpAny (model prog w) A (binaryOp .Pow (.int 2 t) (.int d u)) Q E s := by
  subst he; exact pow_int_small hd (by omega) (by decide) h
end

noncomputable abbrev LD (P : LexP) (w : World) (ws : List Value) (n : Nat) (ln : Int) (t2 : Tok) (oI : Obj) (hl : Addr) (hv : Array Value) (hn : Nat) (dl : Addr) (dv : List Value) (dn : Nat) (tl : List (Addr × Obj)) : List (Addr × Obj) :=
  P.led w ws n ln t2 oI ((hl, W.listOf hv hn) :: (dl, W.listOf dv.toArray dn) :: tl)

theorem rot1 {P : LexP} {w : World} {h₀ h : Heap} {L : Addr} {x : Addr × Obj} {ws : List Value} {n : Nat} {ln : Int} {t2 : Tok} {oI : Obj} {news : List (Addr × Obj)} (N : News h₀ L h (x :: P.led w ws n ln t2 oI news)) : News h₀ L h (P.led w ws n ln t2 oI (x :: news)) :=
  fun p hp => N p (mem_flip (l := [_, _, _, _, _, _, _, _, _]) (m := [_]) hp)
theorem push_any {prog w mean mg mb} (P : LexP) (ok : LexOk P) {y : Value} {ws : List Value} {n : Nat} {ln : Int} {t2 : Tok} {oI : Obj} {tl : List (Addr × Obj)} (hws : ws.length ≤ 100) (off : LexOff P tl) :
    Con prog w mean mg mb 49 [.ref P.lx, y] (P.led w ws n ln t2 oI tl) 1 8 (fun r news' => r = .none ∧ news' = P.led w (ws ++ [y]) (n + 1) ln t2 oI tl) := by
  refine Con.weaken (push_con y ws hws n P.lx P.ld P.lp P.sx _ P.t1 t2 P.t3 P.t4 P.t5 P.t6 ok.o7 ok.o8 _ ?_) (by omega) (by omega) ?_
  · have o1 := ok.o1; have o2 := ok.o2; have o3 := ok.o3; have o4 := ok.o4; have o5 := ok.o5; have o6 := ok.o6; have o7 := ok.o7; have o8 := ok.o8
    repeat (refine ne_cons (by k_ne) ?_)
    exact off.lp
  · rintro r nn ⟨rfl, rfl⟩
    exact ⟨rfl, rfl⟩
theorem LexOff.cons {P : LexP} {a : Addr × Obj} {news : List (Addr × Obj)} (ok : LexOk P) (h : @LT.lt Nat _ P.lp a.1) (off : LexOff P news) : LexOff P (a :: news) := by
  have o1 := ok.o1; have o2 := ok.o2; have o3 := ok.o3; have o4 := ok.o4; have o5 := ok.o5; have o6 := ok.o6; have o7 := ok.o7; have o8 := ok.o8
  exact ⟨ne_cons (by k_ne) off.lp, ne_cons (by k_ne) off.ld, ne_cons (by k_ne) off.I⟩
theorem LexOff.sub {P : LexP} {l l' : List (Addr × Obj)} (h : LexOff P l) (hs : ∀ x ∈ l', x ∈ l) : LexOff P l' :=
  ⟨fun p hp => h.lp p (hs p hp), fun p hp => h.ld p (hs p hp), fun p hp => h.I p (hs p hp)⟩
theorem LexOff.append {P : LexP} {l1 l2 : List (Addr × Obj)} (h1 : LexOff P l1) (h2 : LexOff P l2) : LexOff P (l1 ++ l2) :=
  ⟨fun p hp => (List.mem_append.mp hp).elim (h1.lp p) (h2.lp p), fun p hp => (List.mem_append.mp hp).elim (h1.ld p) (h2.ld p), fun p hp => (List.mem_append.mp hp).elim (h1.I p) (h2.I p)⟩

/-- the ledger within a tree's loop -/
structure InL (P : LexP) (w : World) (Tx : Str) (t : Tok) (trees : List (Int × Int × Nat)) (hl dl : Addr) (dv : List Value) (dn : Nat) (i : Nat) (p q : Int) (E : Nat) (keep bs : List (Addr × Obj)) (k : Nat)
    (ws : List Value) (ln : Int) (oI : Obj) (hv : Array Value) (tl : List (Addr × Obj)) : Prop where
  turn : Turn Tx t (trees.map fun x => word x.1 x.2.1) i k oI ln
  words : WordsAre ws ((qi E (k + 1)).map (nd p q))
  off : LexOff P ((dl, W.listOf dv.toArray dn) :: (tl ++ keep))
  hlo : @LT.lt Nat _ P.lp hl
  hdl : dl ≠ hl
  hne : ∀ x ∈ tl ++ keep, x.1 ≠ hl
  data : DatAll tl hv.toList (heardOf trees i ++ part p q ((i : Int) + 1) k)
  size : hv.size ≤ 16 * i + k
  suf : bs <:+ tl
noncomputable def InSt (P : LexP) (w : World) (Tx : Str) (t : Tok) (trees : List (Int × Int × Nat)) (hl dl : Addr) (dv : List Value) (dn : Nat) (i : Nat) (p q : Int) (E : Nat) (keep bs : List (Addr × Obj)) (k : Nat) (nx : List (Addr × Obj)) : Prop :=
  ∃ ws n ln t2 oI hv hn tl, nx = LD P w ws n ln t2 oI hl hv hn dl dv dn (tl ++ keep) ∧ OwnOff keep ((LD P w ws n ln t2 oI hl hv hn dl dv dn tl).map (·.1)) ∧ InL P w Tx t trees hl dl dv dn i p q E keep bs k ws ln oI hv tl

theorem ownOff_same {own l l' : List (Addr × Obj)} (h : OwnOff own (l.map (·.1))) (e : l'.map (·.1) = l.map (·.1)) : OwnOff own (l'.map (·.1)) := e ▸ h
theorem ownOff_more {own l new : List (Addr × Obj)} (h : OwnOff own (l.map (·.1))) (hn : ∀ y ∈ own, ∀ z ∈ new, y.1 ≠ z.1) : OwnOff own ((new ++ l).map (·.1)) := by
  intro y hy b hb
  rw [List.map_append] at hb
  rcases List.mem_append.mp hb with hb | hb
  · obtain ⟨z, hz, rfl⟩ := List.mem_map.mp hb
    exact hn y hy z hz
  · exact h y hy b hb

/-- .. and between the trees -/
noncomputable def OutSt (P : LexP) (w : World) (Tx : Str) (t : Tok) (trees : List (Int × Int × Nat)) (hl dl : Addr) (dv : List Value) (dn : Nat) (bs : List (Addr × Obj)) (i : Nat) (nx : List (Addr × Obj)) : Prop :=
  ∃ n ln t2 oI hv hn tl, nx = LD P w [] n ln t2 oI hl hv hn dl dv dn tl ∧ Ready Tx t (trees.map fun x => word x.1 x.2.1) i oI ln ∧ LexOff P ((dl, W.listOf dv.toArray dn) :: tl) ∧ @LT.lt Nat _ P.lp hl ∧ dl ≠ hl ∧
    (∀ x ∈ tl, x.1 ≠ hl) ∧ DatAll tl hv.toList (heardOf trees i) ∧ hv.size ≤ 16 * i ∧ bs <:+ tl

theorem led_addr {P : LexP} {w : World} {ws ws' : List Value} {n n' : Nat} {ln ln' : Int} {t2 t2' : Tok} {oI oI' : Obj} {hl : Addr} {hv hv' : Array Value} {hn hn' : Nat} {dl : Addr} {dv : List Value} {dn : Nat} {tl : List (Addr × Obj)} :
    (LD P w ws n ln t2 oI hl hv hn dl dv dn tl).map (·.1) = (LD P w ws' n' ln' t2' oI' hl hv' hn' dl dv dn tl).map (·.1) := by simp

theorem inner_end {P : LexP} {w : World} {Tx : Str} {t : Tok} {trees : List (Int × Int × Nat)} {hl dl : Addr} {dv : List Value} {dn i : Nat} {p q : Int} {E : Nat} {keep own bs : List (Addr × Obj)} {k : Nat} {ws ws' : List Value} {n n' : Nat} {ln : Int} {t2 t2' : Tok} {oI oI' : Obj} {hv : Array Value} {hn hn' : Nat} {tl : List (Addr × Obj)}
    {stored : List Str} {m₀ m' : Str → Option Value} {h₀ h' : Heap} {L : Addr} {s₁ : Shared} {tk' : Nat} {a b c e : Addr} {to1 to2 to3 to4 to5 : Tok} {oa : Obj} {n2 n3 n4 : Nat}
    (ok : LexOk P) (S : InL P w Tx t trees hl dl dv dn i p q E keep bs k ws ln oI hv tl) (hsep : OwnOff keep ((LD P w ws n ln t2 oI hl hv hn dl dv dn tl).map (·.1)))
    (hoff : OwnOff own ((LD P w ws n ln t2 oI hl hv hn dl dv dn (tl ++ keep)).map (·.1)))
    (rd : Ready Tx t (trees.map fun x => word x.1 x.2.1) (i + 1) oI' ((i : Int) + 1)) (hws' : WordsAre ws' ((qi E (k + 2)).map (nd p q)))
    (F : Fr h₀ L h' m') (hm : Agree stored m₀ m')
    (N : News h₀ L h' (P.led w ws' n' ((i : Int) + 1) t2' oI' ((e, tupObj [.ref b, .ref c, .int ((i : Int) + 1) to5] n4) :: (a, oa) :: (c, tupObj [Value.str (Str.ofString "two") to1, .int (nd p q (k + 1)).2 to2] n2) :: (b, tupObj [Value.str (Str.ofString "one") to3, .int (nd p q (k + 1)).1 to4] n3) ::
      (hl, W.listOf (hv.push (.ref e)) hn') :: (dl, W.listOf dv.toArray dn) :: (tl ++ (keep ++ own)))))
    {ws0 : List Value} {m0 hm0 : Nat} {ln0 : Int} {t0 : Tok} {oI0 : Obj} {hv0 : Array Value} (hb : ∀ x ∈ P.led w ws0 m0 ln0 t0 oI0 ((hl, W.listOf hv0 hm0) :: (dl, W.listOf dv.toArray dn) :: (tl ++ (keep ++ own))), x.1 < b) (hbc : @LT.lt Nat _ b c) (hca : @LT.lt Nat _ c a) (hae : @LT.lt Nat _ a e) :
    InvEndG h₀ L (fun m' nx => Agree stored m₀ m' ∧ InSt P w Tx t trees hl dl dv dn i p q E keep bs (k + 1) nx) own s₁ { s₁ with heap := h', toks := tk' } := by
  have hbl : ∀ x ∈ tl ++ (keep ++ own), @LT.lt Nat _ x.1 b := fun x hx => hb x (by
    simp only [List.mem_cons]
    repeat (first | exact hx | apply Or.inr))
  have hlb : @LT.lt Nat _ hl b := hb (hl, W.listOf hv0 hm0) (by simp)
  have hdb : @LT.lt Nat _ dl b := hb (dl, W.listOf dv.toArray dn) (by simp)
  have hpb : @LT.lt Nat _ P.lp b := hb (P.lp, W.listOf ws0.toArray m0) (by simp)
  obtain ⟨hturn, hwords, hoff2, hlo, hdl, hne, hdata, hsize, hsuf⟩ := S
  have hnew : ∀ y : Addr, @LT.lt Nat _ y b → y ≠ b ∧ y ≠ c ∧ y ≠ e := fun y hy => ⟨Nat.ne_of_lt hy, Nat.ne_of_lt (Nat.lt_trans hy hbc), Nat.ne_of_lt (Nat.lt_trans hy (Nat.lt_trans hbc (Nat.lt_trans hca hae)))⟩
  refine InvEndG.intro (nx := LD P w ws' n' ((i : Int) + 1) t2' oI' hl (hv.push (.ref e)) hn' dl dv dn (((e, tupObj [.ref b, .ref c, .int ((i : Int) + 1) to5] n4) :: (c, tupObj [Value.str (Str.ofString "two") to1, .int (nd p q (k + 1)).2 to2] n2) :: (b, tupObj [Value.str (Str.ofString "one") to3, .int (nd p q (k + 1)).1 to4] n3) :: tl) ++ keep))
    F N ⟨hm, ws', n', (i : Int) + 1, t2', oI', hv.push (.ref e), hn', _, rfl, ?_, ?_⟩ ?_ ?_ ?_
  · -- what is kept stays apart
    intro y hy z hz
    have hyb : @LT.lt Nat _ y.1 b := hbl y (by simp [hy])
    obtain ⟨y1, y2, y3⟩ := hnew _ hyb
    have hold := hsep y hy z
    rcases mem_mid (l := [_, _, _, _, _, _, _, _, _, _, _]) (m := [_, _, _]) hz with h | h
    · simp only [List.mem_cons, List.not_mem_nil, or_false] at h
      rcases h with h | h | h <;> (rw [h]; assumption)
    · exact hold h
  · refine ⟨?_, ?_, ?_, hlo, hdl, ?_, ?_, ?_, List.IsSuffix.trans hsuf ⟨[_, _, _], rfl⟩⟩
    · unfold Turn; rw [if_neg (by omega)]; exact rd
    · exact hws'
    · have hpc := Nat.lt_trans hpb hbc
      have hpe := Nat.lt_trans (Nat.lt_trans hpc hca) hae
      refine LexOff.sub (LexOff.cons (a := (e, tupObj [.ref b, .ref c, .int ((i : Int) + 1) to5] n4)) ok hpe (LexOff.cons (a := (c, tupObj [Value.str (Str.ofString "two") to1, .int (nd p q (k + 1)).2 to2] n2)) ok hpc (LexOff.cons (a := (b, tupObj [Value.str (Str.ofString "one") to3, .int (nd p q (k + 1)).1 to4] n3)) ok hpb hoff2))) fun x hx => ?_
      simp only [List.cons_append, List.mem_cons] at hx ⊢
      rcases hx with h | h | h | h | h
      all_goals simp only [h, true_or, or_true]
    · intro x hx
      simp only [List.cons_append, List.mem_cons] at hx
      obtain ⟨y1, y2, y3⟩ := hnew _ hlb
      rcases hx with h | h | h | h
      · rw [h]; exact y3.symm
      · rw [h]; exact y2.symm
      · rw [h]; exact y1.symm
      · exact hne x h
    · rw [part_succ, ← List.append_assoc, Array.toList_push]
      refine DatAll.append (DatAll.mono (fun x hx => by simp [hx]) hdata) (DatAll.one ?_)
      refine DatIn.tuple (vs := [.ref b, .ref c, .int ((i : Int) + 1) to5]) (n := n4) (by simp) (.cons ?_ (.cons ?_ (.cons (.int _ _) .nil)))
      · exact DatIn.tuple (vs := [Value.str (Str.ofString "one") to3, .int (nd p q (k + 1)).1 to4]) (n := n3) (by simp) (.cons (.str _ _) (.cons (.int _ _) .nil))
      · exact DatIn.tuple (vs := [Value.str (Str.ofString "two") to1, .int (nd p q (k + 1)).2 to2]) (n := n2) (by simp) (.cons (.str _ _) (.cons (.int _ _) .nil))
    · rw [Array.size_push]; omega
  · intro y hy z hz
    have hyb : @LT.lt Nat _ y.1 b := hbl y (by simp [hy])
    obtain ⟨y1, y2, y3⟩ := hnew _ hyb
    have hold := hoff y hy z
    rcases mem_mid (l := [_, _, _, _, _, _, _, _, _, _, _]) (m := [_, _, _]) hz with h | h
    · simp only [List.mem_cons, List.not_mem_nil, or_false] at h
      rcases h with h | h | h <;> (rw [h]; assumption)
    · exact hold h
  · intro x hx
    refine mem_tail (l := [_, _, _, _, _, _, _, _, _]) (r := _ :: _ :: ((_ :: _ :: _ :: tl) ++ keep)) (fun _ h => ?_) hx
    simp only [List.cons_append, List.nil_append, List.mem_cons, List.mem_append] at h ⊢
    rcases h with h | h | h | h | h | h | h <;> simp [h]
  · intro x hx
    exact List.mem_append_right [_, _, _, _, _, _, _, _, _, _, _, _, _, _, _] (List.mem_append_right _ (List.mem_append_right _ hx))

section
variable {prog : Program} {w : World} {A : Around} {Er : Value → Shared → Prop} {s : Shared} {h₀ : Heap} {env : Env} {x : Str} {body : List Stmt} {Q : Flow → Shared → Prop} {mi : Str → Option Value} {r : Addr} {t₀ u₀ v₀ : Tok}
  {P : LexP} {Tx : Str} {t : Tok} {trees : List (Int × Int × Nat)} {hl dl : Addr} {dv : List Value} {dn i : Nat} {p q : Int} {E : Nat} {keep bs : List (Addr × Obj)} {ws : List Value} {n : Nat} {ln : Int} {t2 : Tok} {oI : Obj} {hv : Array Value} {hn : Nat} {tl : List (Addr × Obj)}
noncomputable abbrev storedI : List Str := [Str.ofString "n", Str.ofString "upper", Str.ofString "lower", Str.ofString "both"]
noncomputable abbrev storedO : List Str := [Str.ofString "depth", Str.ofString "n", Str.ofString "upper", Str.ofString "lower", Str.ofString "both"]
/-- the loop over one tree -/
theorem inner_loop (hE : E ∈ [4, 8, 16]) (hp2 : ∃ d, trees[i]? = some (p, q, d) ∧ E = 2 ^ d) (hh : A.handled = none) (hr : IsRange s.heap r 1 (E : Int) 1 t₀ u₀ v₀) (F : Fr h₀ env.locals s.heap mi) (N : News h₀ env.locals s.heap (LD P w [] n ln t2 oI hl hv hn dl dv dn (tl ++ keep)))
    (rd : Ready Tx t (trees.map fun x => word x.1 x.2.1) i oI ln) (off : LexOff P ((dl, W.listOf dv.toArray dn) :: (tl ++ keep))) (hlo : @LT.lt Nat _ P.lp hl) (hdl : dl ≠ hl) (hne : ∀ x ∈ tl ++ keep, x.1 ≠ hl) (hsep : OwnOff keep ((LD P w [] n ln t2 oI hl hv hn dl dv dn tl).map (·.1)))
    (hd : DatAll tl hv.toList (heardOf trees i)) (hs : hv.size ≤ 16 * i) (hbs : bs <:+ tl)
    (turn : ∀ k m₁ ws n ln t2 oI hv hn tl own h tk tn, k + 1 < E → Agree storedI mi m₁ → InL P w Tx t trees hl dl dv dn i p q E keep bs k ws ln oI hv tl → OwnOff keep ((LD P w ws n ln t2 oI hl hv hn dl dv dn tl).map (·.1)) → OwnOff own ((LD P w ws n ln t2 oI hl hv hn dl dv dn (tl ++ keep)).map (·.1)) →
      Fr h₀ env.locals h (fun y => if y = Str.ofString "n" then some (.int (1 + (k : Int)) tn) else if storedI.contains y then m₁ y else mi y) → News h₀ env.locals h (P.led w ws n ln t2 oI ((hl, W.listOf hv hn) :: (dl, W.listOf dv.toArray dn) :: (tl ++ (keep ++ own)))) →
      wpAny (model prog w) A (execs body env) (InvPostG h₀ env.locals (fun m' nx => Agree storedI mi m' ∧ InSt P w Tx t trees hl dl dv dn i p q E keep bs (k + 1) nx) own { s with heap := h, toks := tk } Q) Er { s with heap := h, toks := tk })
    (done : ∀ m₁ n ln t2 oI hv hn tl h tk, Agree storedI mi m₁ → Ready Tx t (trees.map fun x => word x.1 x.2.1) (i + 1) oI ln → LexOff P ((dl, W.listOf dv.toArray dn) :: (tl ++ keep)) → (∀ x ∈ tl ++ keep, x.1 ≠ hl) → OwnOff keep ((LD P w [] n ln t2 oI hl hv hn dl dv dn tl).map (·.1)) →
      DatAll tl hv.toList (heardOf trees (i + 1)) → hv.size ≤ 16 * (i + 1) → bs <:+ tl → Fr h₀ env.locals h m₁ → News h₀ env.locals h (LD P w [] n ln t2 oI hl hv hn dl dv dn (tl ++ keep)) → Q .next { s with heap := h, toks := tk }) :
    wpAny (model prog w) A (pyIter (.ref r)) (fun it s₂ => LoopAtV prog w A h₀ env (Str.ofString "n") body Q Er it s₂) Er s := by
  have hE16 : 4 ≤ E ∧ E ≤ 16 := by
    simp only [List.mem_cons, List.not_mem_nil, or_false] at hE; omega
  refine range_iter (n := E - 1) (fun k m' nx => Agree storedI mi m' ∧ InSt P w Tx t trees hl dl dv dn i p q E keep bs k nx) hh hr ?_ ?_ F N ⟨Agree.refl _ _, [], n, ln, t2, oI, hv, hn, tl, rfl, hsep, ?_⟩ ?_ ?_
  · simp only [List.mem_cons, List.not_mem_nil, or_false] at hE
    rcases hE with rfl | rfl | rfl <;> decide
  · simp only [List.mem_cons, List.not_mem_nil, or_false] at hE
    rcases hE with rfl | rfl | rfl <;> decide
  · exact ⟨by unfold Turn; rw [if_pos rfl]; exact rd, trivial, off, hlo, hdl, hne, by simpa [part] using hd, by omega, hbs⟩
  · rintro k m₁ nx h tk own tn hk hoff ⟨hm, ws', n', ln', t2', oI', hv', hn', tl', rfl, hsep', S⟩ F₁ N₁
    refine turn k m₁ ws' n' ln' t2' oI' hv' hn' tl' own h tk tn (by omega) hm S hsep' hoff ?_ ?_
    · have := hm.map
      rw [this] at F₁
      exact F₁
    · exact fun y hy => N₁ y (mem_tail (l := [_, _, _, _, _, _, _, _, _, _, _]) (r' := (tl' ++ keep) ++ own) (fun _ h => by rw [List.append_assoc]; exact h) hy)
  · rintro m₁ nx h tk ⟨hm, ws', n', ln', t2', oI', hv', hn', tl', rfl, hsep', S⟩ F₁ N₁
    obtain ⟨hturn, hwords, hoff2, _, _, hne', hdata, hsize, hsuf⟩ := S
    have e1 : E - 1 + 1 = E := by omega
    rw [e1, qi_end E hE] at hwords
    cases ws' with
    | cons v vs => exact hwords.elim
    | nil =>
      unfold Turn at hturn
      rw [if_neg (by omega)] at hturn
      obtain ⟨d, hd1, hd2⟩ := hp2
      refine done m₁ n' ln' t2' oI' hv' hn' tl' h tk hm hturn hoff2 hne' hsep' ?_ (by omega) hsuf F₁ N₁
      unfold heardOf
      rw [hd1]
      show DatAll _ _ (heardOf trees i ++ part p q ((i : Int) + 1) (2 ^ d - 1))
      rw [← hd2]
      exact hdata

/-- the loop over the trees -/
theorem outer_loop {mo : Str → Option Value} (hh : A.handled = none) (F : Fr h₀ env.locals s.heap mo) (N : News h₀ env.locals s.heap ((hl, W.listOf #[] 0) :: P.led w [] n 1 t2 oI ((dl, W.listOf dv.toArray dn) :: tl)))
    (hi : StrIt oI Tx t 0) (off : LexOff P ((dl, W.listOf dv.toArray dn) :: tl)) (hlo : @LT.lt Nat _ P.lp hl) (hdl : @LT.lt Nat _ dl hl) (htl : AllLt hl tl) (hbs : bs <:+ tl) (hlen : dv.length = trees.length)
    (hdv : ∀ (i : Nat) (x : Int × Int × Nat), trees[i]? = some x → ∃ t, dv[i]? = some (Value.int (x.2.2 : Int) t))
    (turn : ∀ i x dt m₁ n ln t2 oI hv hn tl own h tk, trees[i]? = some x → Agree storedO mo m₁ → Ready Tx t (trees.map fun x => word x.1 x.2.1) i oI ln → LexOff P ((dl, W.listOf dv.toArray dn) :: tl) → dl ≠ hl → (∀ x ∈ tl, x.1 ≠ hl) → DatAll tl hv.toList (heardOf trees i) → hv.size ≤ 16 * i → bs <:+ tl →
      OwnOff own ((LD P w [] n ln t2 oI hl hv hn dl dv dn tl).map (·.1)) → Fr h₀ env.locals h (fun y => if y = Str.ofString "depth" then some (.int (x.2.2 : Int) dt) else if storedO.contains y then m₁ y else mo y) → News h₀ env.locals h (LD P w [] n ln t2 oI hl hv hn dl dv dn (tl ++ own)) →
      wpAny (model prog w) A (execs body env) (InvPostG h₀ env.locals (fun m' nx => (dl, W.listOf dv.toArray dn) ∈ nx ∧ (Agree storedO mo m' ∧ OutSt P w Tx t trees hl dl dv dn bs (i + 1) nx)) own { s with heap := h, toks := tk } Q) Er { s with heap := h, toks := tk })
    (done : ∀ m₁ n ln t2 oI hv hn tl h tk, Agree storedO mo m₁ → Ready Tx t (trees.map fun x => word x.1 x.2.1) trees.length oI ln → LexOff P ((dl, W.listOf dv.toArray dn) :: tl) → (∀ x ∈ tl, x.1 ≠ hl) → DatAll tl hv.toList (heardOf trees trees.length) → bs <:+ tl →
      Fr h₀ env.locals h m₁ → News h₀ env.locals h (LD P w [] n ln t2 oI hl hv hn dl dv dn tl) → Q .next { s with heap := h, toks := tk }) :
    wpAny (model prog w) A (pyIter (.ref dl)) (fun it s₂ => LoopAtV prog w A h₀ env (Str.ofString "depth") body Q Er it s₂) Er s := by
  have hne : dl ≠ hl := Nat.ne_of_lt hdl
  refine kdl_iter (nn := dn) (vs := dv) (fun i m' nx => Agree storedO mo m' ∧ OutSt P w Tx t trees hl dl dv dn bs i nx) hh (news := LD P w [] n 1 t2 oI hl #[] 0 dl dv dn tl) (by simp) F (rot1 N) ⟨Agree.refl _ _, n, 1, t2, oI, #[], 0, tl, rfl, .inl ⟨rfl, hi, rfl⟩, off, hlo, hne, fun x hx => Nat.ne_of_lt (allLt_all htl x hx), .nil, Nat.zero_le _, hbs⟩ ?_ ?_
  · rintro i v m₁ nx h tk own hv hoff hmem ⟨hm, n', ln', t2', oI', hv', hn', tl', rfl, rd, off', _, _, hne', hdat, hsz, hsuf⟩ F₁ N₁
    have hlt : i < trees.length := by
      have := (List.getElem?_eq_some_iff.mp hv).1
      omega
    obtain ⟨dt, hdt⟩ := hdv i _ (List.getElem?_eq_getElem hlt)
    rw [hv] at hdt
    cases hdt
    refine turn i _ dt m₁ n' ln' t2' oI' hv' hn' tl' own h tk (List.getElem?_eq_getElem hlt) hm rd off' hne hne' hdat hsz hsuf hoff ?_ N₁
    have := hm.map
    rw [this] at F₁
    exact F₁
  · rintro m₁ nx h tk ⟨hm, n', ln', t2', oI', hv', hn', tl', rfl, rd, off', _, _, hne', hdat, hsz, hsuf⟩ F₁ N₁
    rw [hlen] at rd hdat
    exact done m₁ n' ln' t2' oI' hv' hn' tl' h tk hm rd off' hne' hdat hsuf F₁ N₁
end

theorem off_own {P : LexP} {w : World} {ws : List Value} {n : Nat} {ln : Int} {t2 : Tok} {oI : Obj} {hl : Addr} {hv : Array Value} {hn : Nat} {dl : Addr} {dv : List Value} {dn : Nat} {tl own : List (Addr × Obj)} (h : OwnOff own ((LD P w ws n ln t2 oI hl hv hn dl dv dn tl).map (·.1))) :
    LexOff P own ∧ ∀ x ∈ own, x.1 ≠ hl :=
  ⟨⟨fun x hx => h x hx _ (by simp), fun x hx => h x hx _ (by simp), fun x hx => h x hx _ (by simp)⟩, fun x hx => h x hx _ (by simp)⟩
theorem agree_in {mo m₁o m₁ : Str → Option Value} {v : Option Value} (hm : Agree storedI (fun y => if y = Str.ofString "depth" then v else if storedO.contains y then m₁o y else mo y) m₁) : Agree storedO mo m₁ := fun z hz => by
  have h1 : storedI.contains z = false := by
    simp only [List.contains_cons, List.contains_nil, Bool.or_false, Bool.or_eq_false_iff] at hz ⊢
    exact ⟨hz.2.1, hz.2.2.1, hz.2.2.2.1, hz.2.2.2.2⟩
  have h2 : z ≠ Str.ofString "depth" := fun e => by
    simp only [List.contains_cons, Bool.or_eq_false_iff] at hz
    have := hz.1
    rw [e] at this
    simp at this
  rw [hm z h1]
  show (if z = Str.ofString "depth" then v else if storedO.contains z then m₁o z else mo z) = mo z
  rw [if_neg h2, if_neg (by rw [hz]; exact Bool.false_ne_true)]
theorem outer_end {P : LexP} {w : World} {Tx : Str} {t : Tok} {trees : List (Int × Int × Nat)} {hl dl : Addr} {dv : List Value} {dn i : Nat} {n hn : Nat} {ln : Int} {t2 : Tok} {oI : Obj} {hv : Array Value} {tl own bs : List (Addr × Obj)}
    {mo m' : Str → Option Value} {h₀ h' : Heap} {L : Addr} {s₁ : Shared} {tk' : Nat} (hm : Agree storedO mo m') (rd : Ready Tx t (trees.map fun x => word x.1 x.2.1) i oI ln) (off : LexOff P ((dl, W.listOf dv.toArray dn) :: (tl ++ own))) (hlo : @LT.lt Nat _ P.lp hl) (hdl : dl ≠ hl)
    (hne : ∀ x ∈ tl ++ own, x.1 ≠ hl) (hsep : OwnOff own ((LD P w [] n ln t2 oI hl hv hn dl dv dn tl).map (·.1))) (hd : DatAll tl hv.toList (heardOf trees i)) (hs : hv.size ≤ 16 * i) (hbs : bs <:+ tl) (F : Fr h₀ L h' m') (N : News h₀ L h' (LD P w [] n ln t2 oI hl hv hn dl dv dn (tl ++ own))) :
    InvEndG h₀ L (fun m' nx => (dl, W.listOf dv.toArray dn) ∈ nx ∧ (Agree storedO mo m' ∧ OutSt P w Tx t trees hl dl dv dn bs i nx)) own s₁ { s₁ with heap := h', toks := tk' } := by
  refine InvEndG.intro (nx := LD P w [] n ln t2 oI hl hv hn dl dv dn tl) F N ⟨by simp, hm, n, ln, t2, oI, hv, hn, tl, rfl, rd, LexOff.sub off fun x hx => ?_, hlo, hdl, fun x hx => hne x (by simp [hx]), hd, hs, hbs⟩ hsep (fun x hx => ?_) (fun x hx => ?_)
  · simp only [List.mem_cons, List.mem_append] at hx ⊢
    rcases hx with h | h <;> simp [h]
  · exact mem_tail (l := [_, _, _, _, _, _, _, _, _, _, _]) (fun _ h => List.mem_append_left _ h) hx
  · exact List.mem_append_right [_, _, _, _, _, _, _, _, _, _, _] (List.mem_append_right _ hx)

theorem agree_base {stored : List Str} {mi m : Str → Option Value} : Agree stored mi (fun z => if stored.contains z then m z else mi z) := fun z hz => by
  show (if stored.contains z then m z else mi z) = mi z
  rw [if_neg (by rw [hz]; exact Bool.false_ne_true)]
theorem words_push {E k : Nat} {p q : Int} {ws : List Value} {t1 t2 : Tok} (hE : E ∈ [4, 8, 16]) (hk : k + 1 < E) (h : (2 : Int) * (1 + (k : Int)) < (E : Int)) (wa : WordsAre ws ((qi E (k + 1)).tail.map (nd p q))) :
    WordsAre (ws ++ [Value.str (word (nd p q (k + 1)).1 ((nd p q (k + 1)).1 + (nd p q (k + 1)).2)) t1] ++ [Value.str (word ((nd p q (k + 1)).1 + (nd p q (k + 1)).2) (nd p q (k + 1)).2) t2]) ((qi E (k + 2)).map (nd p q)) := by
  have hE16 : E ≤ 16 := by
    simp only [List.mem_cons, List.not_mem_nil, or_false] at hE; omega
  have e1 := qi_push E hE (k + 1) (by omega) (by omega) hk (by omega)
  obtain ⟨e2, e3⟩ := nd_kids (p := p) (q := q) (n := k + 1) (by omega) (by omega)
  rw [show k + 2 = k + 1 + 1 from rfl, e1, List.map_append]
  simp only [List.map_cons, List.map_nil, e2, e3]
  have : ∀ (l : List (Int × Int)) (a b : Int × Int), l ++ [a, b] = l ++ [a] ++ [b] := fun l a b => by simp
  rw [this]
  have h1 := WordsAre.snoc (v := Value.str (word (nd p q (k + 1)).1 ((nd p q (k + 1)).1 + (nd p q (k + 1)).2)) t1) (x := ((nd p q (k + 1)).1, (nd p q (k + 1)).1 + (nd p q (k + 1)).2)) ⟨t1, rfl⟩ wa
  exact WordsAre.snoc (v := Value.str (word ((nd p q (k + 1)).1 + (nd p q (k + 1)).2) (nd p q (k + 1)).2) t2) (x := ((nd p q (k + 1)).1 + (nd p q (k + 1)).2, (nd p q (k + 1)).2)) ⟨t2, rfl⟩ h1
theorem words_rest {E k : Nat} {p q : Int} {ws : List Value} (hE : E ∈ [4, 8, 16]) (hk : k + 1 < E) (h : ¬ (2 : Int) * (1 + (k : Int)) < (E : Int)) (wa : WordsAre ws ((qi E (k + 1)).tail.map (nd p q))) : WordsAre ws ((qi E (k + 2)).map (nd p q)) := by
  have hE16 : E ≤ 16 := by
    simp only [List.mem_cons, List.not_mem_nil, or_false] at hE; omega
  have e1 := qi_rest E hE (k + 1) (by omega) (by omega) hk (by omega)
  rw [show k + 2 = k + 1 + 1 from rfl, e1]
  exact wa
theorem gen_post {M : Model} {A : Around} {c : Sem Flow} {P : Flow → Shared → Prop} {E : Value → Shared → Prop} {s : Shared} (h : ∀ K : Flow → Shared → Prop, (∀ s', P .next s' → K .next s') → wpAny M A c K E s) : wpAny M A c P E s := h P fun _ h => h
theorem gen_post2 {M : Model} {A : Around} {c : Sem Unit} {c2 : Sem Flow} {P : Flow → Shared → Prop} {E : Value → Shared → Prop} {s : Shared} (h : ∀ K : Flow → Shared → Prop, (∀ s', P .next s' → K .next s') → wpAny M A c (fun _ s₂ => wpAny M A c2 K E s₂) E s) : wpAny M A c (fun _ s₂ => wpAny M A c2 P E s₂) E s := h P fun _ h => h
noncomputable def Stop (p : Prop) : Prop := p
theorem stop {p : Prop} (h : Stop p) : p := h
theorem fit_le {n : Nat} (h : n ≤ 1000) : n ≤ sizeLine := Nat.le_trans h (by decide)
end Mine
end

section
open PySem PySem.W PyProof.Rows PySem.Spec PySem.Calls PySem.Builtin
namespace Mine
theorem start_B4 : True := by
  w_top off
  trivial
theorem rot4 {P : LexP} {w : World} {h₀ h : Heap} {L : Addr} {x y z u : Addr × Obj} {ws : List Value} {n : Nat} {ln : Int} {t2 : Tok} {oI : Obj} {news : List (Addr × Obj)} (N : News h₀ L h (x :: y :: z :: u :: P.led w ws n ln t2 oI news)) : News h₀ L h (P.led w ws n ln t2 oI (x :: y :: z :: u :: news)) :=
  fun p hp => N p (mem_flip (l := [_, _, _, _, _, _, _, _, _]) (m := [_, _, _, _]) hp)
theorem sw_news {P : LexP} {w : World} {h₀ h : Heap} {L : Addr} {ws : List Value} {n hn : Nat} {ln : Int} {t2 : Tok} {oI : Obj} {hl dl : Addr} {hv : Array Value} {dv : List Value} {dn : Nat} {a b : List (Addr × Obj)} (N : News h₀ L h (LD P w ws n ln t2 oI hl hv hn dl dv dn (a ++ b))) : News h₀ L h (LD P w ws n ln t2 oI hl hv hn dl dv dn (b ++ a)) :=
  fun p hp => N p (mem_tail (l := [_, _, _, _, _, _, _, _, _, _, _]) (r := b ++ a) (r' := a ++ b) (fun _ h => (List.mem_append.mp h).elim (List.mem_append_right _) (List.mem_append_left _)) hp)
local macro_rules | `(tactic| k_room) => `(tactic| ktr_room)
local macro_rules | `(tactic| k_all) => `(tactic| first | assumption | (refine' allNe_of_lt ?h9 ?e9; (case h9 => assumption); (case e9 => omega)))
local macro_rules | `(tactic| walk_at "exec For") => `(tactic| refine stop ?_)
local macro_rules | `(tactic| walk_at "exec For Name Name cons nil") => `(tactic| refine stop ?_)
local macro_rules | `(tactic| walk_at "exec For Name Call cons nil") => `(tactic| refine stop ?_)
local macro_rules | `(tactic| walk_at "pyIter ref") => `(tactic| refine stop ?_)
local macro_rules | `(tactic| walk_at "call type:range") => `(tactic| ((rename Fr _ _ _ _ => F'); (rename News _ _ _ _ => N'); (with_unfolding_all refine range2_rows F' N' ?_); intro _ _ _ _ _ _ _ _ _))
local macro_rules | `(tactic| walk_at "binaryOp Pow int int") => `(tactic| (k_dflt (refine' pow_is ?p1 ?p2 ?p3 ?_; (case p1 => omega); (case p2 => omega); (case p3 => assumption))))
local macro_rules | `(tactic| walk_at "ite") => `(tactic| first | (refine ite_not ?hno ?_; (case hno => with_reducible assumption)) | (refine ite_yes ?hyes ?_; (case hyes => with_reducible assumption)))
local macro_rules | `(tactic| walk_at "call ref") => `(tactic| (k_here; first
  | (k_dflt (show wpAny _ _ (call (Value.ref 42) [_]) _ _ _); k_dflt (refine' Con.use (get_any _ (by assumption) (by assumption) (by assumption) (by assumption) (by assumption) (by assumption) (by assumption) (by assumption) (by assumption)) (by k_asm) (by k_asm) (by k_asm) (by k_asm) (by assumption) (by k_asm) (by first | exact rfl | assumption) (by ktr_room) (by ktr_units) ?_); intro r9 n9 h9 tk9 F9 N9 p9; obtain ⟨oI9, t9, t8, m9, ws9, rd9, e9, wa9, e8⟩ := p9; subst e9 e8; have wl9 := WordsAre.length wa9; (simp only [List.length_map, List.length_tail] at wl9); (try dsimp only); (try k_fold))
  | ((with_reducible show wpAny _ _ (call (Value.ref 151) [Value.str (word _ _) _]) _ _ _); k_dflt (refine' Con.use (pair_con _ _ _ (by assumption) (by assumption) (by assumption) (by assumption) _) (by k_asm) (by k_asm) (by k_asm) (by k_asm) (by assumption) (by k_asm) (by first | exact rfl | assumption) (by ktr_room) (by ktr_units) ?_); intro r9 n9 h9 tk9 F9 N9 p9; obtain ⟨a9, b9, c9, t1, t2, t3, t4, n1, n2, n3, e9, e8, l9, l8, l7⟩ := p9; subst e9 e8; have l6 := l9; (try k_lt l6); (try dsimp only); (try k_fold))
  | ((with_reducible show wpAny _ _ (call (Value.ref 144) [_, _]) _ _ _); k_dflt (refine' Con.useV (word_con _ _ _ _ (by assumption) (by assumption) (by assumption) (by assumption) _) (by k_asm) (by k_asm) (by k_asm) (by k_asm) (by assumption) (by k_asm) (by first | exact rfl | assumption) (by ktr_room) (by ktr_units) ?_); intro t9 h9 tk9 F9 N9; (try dsimp only); (try k_fold))
  | (k_dflt (show wpAny _ _ (call (Value.ref 49) [_, _]) _ _ _); (with_reducible rename News _ _ _ _ => N'); k_dflt (refine' Con.use (push_any _ (by assumption) ?hws ?off) (by k_asm) (by k_asm) (by k_asm) (by first | exact rot4 N' | exact N') (by assumption) (by k_asm) (by first | exact rfl | assumption) (by ktr_room) (by ktr_units) ?_; (case hws => (try simp only [List.length_append, List.length_cons, List.length_nil]); omega); (case off => walk_at "mine off")); intro r9 n9 h9 tk9 F9 N9 p9; obtain ⟨e9, e8⟩ := p9; subst e9 e8; (try dsimp only); (try k_fold))))
local macro_rules | `(tactic| walk_at "call builtin:list.append") => `(tactic| (k_here; (with_reducible show wpAny _ _ (call (Value.builtin _) [Value.ref _, _]) _ _ _); k_dflt (refine' append_K ?k1 ?k2 ?k3 ?_ ?z; (case k1 => k_asm); (case k2 => k_asm); (case k3 => k_upd); (case z => (refine fit_le ?_; assumption)); k_whole); intro h' F' N'))
local macro_rules | `(tactic| walk_at "mine off") => `(tactic| first | assumption | (refine LexOff.cons (by assumption) (by (try dsimp only); omega) ?_; walk_at "mine off"))

set_option maxHeartbeats 1600000 in
theorem walk_con {prog w mean mg mb} (P : LexP) (ok : LexOk P) (HL : LamCon prog w mean mg mb P) {Tx : Str} {t : Tok} {trees : List (Int × Int × Nat)} (TO : TextOk Tx (trees.map fun x => word x.1 x.2.1)) {oI : Obj} {n : Nat} {t2 : Tok} {tl : List (Addr × Obj)} {dl : Addr} {dv : List Value} {dn : Nat}
   (hi : StrIt oI Tx t 0) (off : LexOff P ((dl, W.listOf dv.toArray dn) :: tl)) (hdv : ∀ (i : Nat) (x : Int × Int × Nat), trees[i]? = some x → ∃ t, dv[i]? = some (Value.int (x.2.2 : Int) t)) (hlen : dv.length = trees.length) (hl3 : trees.length ≤ 3)
   (hok : ∀ (i : Nat) (x : Int × Int × Nat), trees[i]? = some x → (0 ≤ x.1 ∧ x.1 < 1000) ∧ (0 ≤ x.2.1 ∧ x.2.1 < 1000) ∧ (x.2.2 = 2 ∨ x.2.2 = 3 ∨ x.2.2 = 4)) :
   Con prog w mean mg mb 158 [.ref P.lx, .ref dl] (P.led w [] n 1 t2 oI ((dl, W.listOf dv.toArray dn) :: tl)) 10 100 (fun r news' => ∃ hl n' ln' t2' oI' hv hn nw, r = .ref hl ∧ Ready Tx t (trees.map fun x => word x.1 x.2.1) trees.length oI' ln' ∧ LexOff P ((hl, W.listOf hv hn) :: (dl, W.listOf dv.toArray dn) :: (tl ++ nw)) ∧
     (∀ x ∈ tl ++ nw, x.1 ≠ hl) ∧ dl ≠ hl ∧ DatAll (tl ++ nw) hv.toList (heardOf trees trees.length) ∧ news' = LD P w [] n' ln' t2' oI' hl hv hn dl dv dn (tl ++ nw)) := by
  unfold Con
  refine rowSay ?_
  k_fill
  intro _
  intro dp un gd cn cs a ccd cl outer A₀ base h₀ L m s R B F X N C0 T hk hd hu hret
  k_dflt cell_enter
  k_steps
  (rename News _ _ _ _ => N1)
  (rename Fr _ _ _ _ => F1)
  unfold Stop
  refine For_invVF F1 rfl rfl ?_
  k_steps
  unfold Stop
  (rename (_ ∧ _ ∧ _ ∧ _) => l9)
  refine outer_loop rfl F1 N1 hi off l9.1 l9.2.2.2.2.2.2.2.2.2.1 l9.2.2.2.2.2.2.2.2.2.2 (List.suffix_refl tl) hlen hdv ?turn ?done
  case done =>
    intro m₁ n ln t2 oI hv hn tl h tk hm rd off' hne hdat hsuf F2 N2
    have e := hm.map
    rw [e] at F2
    k_steps
    obtain ⟨nw, rfl⟩ := hsuf
    have offz := LexOff.cons (a := (_, W.listOf hv hn)) ok l9.1 off'
    refine hret _ _ _ _ (by k_asm) (sw_news ‹_›) ⟨_, _, _, _, _, _, _, nw, rfl, rd, ?_, ?_, ?_, ?_, rfl⟩
    · refine LexOff.sub offz fun x hx => ?_
      simp only [List.mem_cons, List.mem_append] at hx ⊢
      rcases hx with h | h | h | h <;> simp [h]
    · exact fun x hx => hne x (by simp only [List.mem_append] at hx ⊢; exact hx.symm)
    · exact Nat.ne_of_lt l9.2.2.2.2.2.2.2.2.2.1
    · exact DatAll.mono (fun x hx => by simp only [List.mem_append] at hx ⊢; exact hx.symm) hdat
  case turn =>
    intro i x dt m₁ n ln t2 oI hv hn tl own h tk hx hm rd off' hne hnet hdat hsz hsuf hoff F2 N2
    refine gen_post fun K1 hK1 => ?_
    obtain ⟨p, q, d⟩ := x
    obtain ⟨hp, hq, hd4⟩ := hok i _ hx
    dsimp only at hp hq hd4 F2
    obtain ⟨E, hEd, hE, hpow⟩ : ∃ E : Nat, E = 2 ^ d ∧ E ∈ [4, 8, 16] ∧ (2 : Int) ^ (d : Int).toNat = (E : Int) := by
      rcases hd4 with rfl | rfl | rfl
      · exact ⟨4, rfl, by decide, rfl⟩
      · exact ⟨8, rfl, by decide, rfl⟩
      · exact ⟨16, rfl, by decide, rfl⟩
    have hW : (trees.map fun x => word x.1 x.2.1)[i]? = some (word p q) := by simp [hx]
    k_steps
    unfold Stop
    refine For_invVF F2 rfl rfl ?_
    k_steps
    unfold Stop
    (rename News _ _ _ _ => N3)
    (rename Fr _ _ _ _ => F3)
    (rename IsRange _ _ _ _ _ _ _ _ => r3)
    obtain ⟨oo1, oo2⟩ := off_own hoff
    have offA : LexOff P ((dl, W.listOf dv.toArray dn) :: (tl ++ own)) := LexOff.append off' oo1
    have hneA : ∀ x ∈ tl ++ own, x.1 ≠ _ := fun x hx => (List.mem_append.mp hx).elim (hnet x) (oo2 x)
    refine inner_loop (keep := own) hE ⟨d, hx, hEd⟩ rfl r3 F3 N3 rd offA l9.1 hne hneA hoff hdat hsz hsuf ?iturn ?idone
    case idone =>
      intro m₁ n ln t2 oI hv hn tl h tk hm rd off' hne' hsep hdat hsz hsuf F4 N4
      k_steps
      refine hK1 _ ?_
      exact outer_end (agree_in hm) rd off' l9.1 hne hne' hsep hdat hsz hsuf F4 N4
    case iturn =>
      intro k m₁ ws n ln t2 oI hv hn tl own' h tk tn hk hm S hsep hoff' F4 N4
      refine gen_post fun K2 hK2 => ?_
      have hT := S.turn
      have hws := S.words
      obtain ⟨po1, po2⟩ := off_own hoff'
      have off4 : LexOff P ((dl, W.listOf dv.toArray dn) :: (tl ++ (own ++ own'))) := LexOff.sub (LexOff.append S.off po1) (fun x hx => by simpa [List.append_assoc] using hx)
      have off3 : LexOff P ((_, W.listOf hv hn) :: (dl, W.listOf dv.toArray dn) :: (tl ++ (own ++ own'))) := LexOff.cons ok S.hlo off4
      have hk16 : k + 1 < 16 := by
        simp only [List.mem_cons, List.not_mem_nil, or_false] at hE; omega
      obtain ⟨b1, b2, b3, b4⟩ := nd_bound hp hq (show 1 ≤ k + 1 by omega) hk16
      have c1 : (nd p q (k + 1)).1 < 10 ^ 10 := by omega
      have c2 : (nd p q (k + 1)).2 < 10 ^ 10 := by omega
      have c3 : 0 ≤ (nd p q (k + 1)).1 + (nd p q (k + 1)).2 := by omega
      have c4 : (nd p q (k + 1)).1 + (nd p q (k + 1)).2 < 10 ^ 10 := by omega
      have hne3 : ∀ x ∈ tl ++ (own ++ own'), x.1 ≠ _ := fun x hx => by
        rw [← List.append_assoc] at hx
        exact (List.mem_append.mp hx).elim (S.hne x) (po2 x)
      have hvs : hv.size ≤ 1000 := by
        have h1 := S.size
        have h2 : i < trees.length := (List.getElem?_eq_some_iff.mp hx).1
        omega
      have hwl : (qi E (k + 1)).length ≤ 16 := qi_len E hE (k + 1) (by omega)
      k_steps
      · (rename News _ _ _ _ => N5)
        (rename Fr _ _ _ _ => F5)
        refine hK2 _ ?_
        refine inner_end ok S hsep hoff' ‹_› (words_push hE hk ‹_› ‹_›) F5 ?ag1 N5 ‹_› ‹_› ‹_› (by omega)
        case ag1 => repeat (first | exact agree_base | refine Agree.put ?_ (by decide))
      · (rename News _ _ _ _ => N5)
        (rename Fr _ _ _ _ => F5)
        refine hK2 _ ?_
        refine inner_end ok S hsep hoff' ‹_› (words_rest hE hk ‹_› ‹_›) F5 ?ag2 (rot4 N5) ‹_› ‹_› ‹_› (by omega)
        case ag2 => repeat (first | exact agree_base | refine Agree.put ?_ (by decide))
end Mine
end

section
open PySem PySem.W PyProof.Rows PySem.Spec PySem.Calls PySem.Builtin
namespace Mine
noncomputable def S (n : Nat) : Int := ([0, 1, 1, 2, 1, 3, 2, 3, 1] : List Int).getD n 0
noncomputable def dueRow (p q ln : Int) (k j : Nat) : List Dat := (List.range j).map fun j => dat (p * S (2 ^ k - j) + q * S j) (p * S (2 ^ k - j - 1) + q * S (j + 1)) ln
noncomputable def dueT (p q ln : Int) : Nat → List Dat
  | 0 => []
  | k + 1 => dueT p q ln k ++ dueRow p q ln k (2 ^ k)
theorem dueRow_succ (p q ln : Int) (k j : Nat) : dueRow p q ln k (j + 1) = dueRow p q ln k j ++ [dat (p * S (2 ^ k - j) + q * S j) (p * S (2 ^ k - j - 1) + q * S (j + 1)) ln] := by
  simp [dueRow, List.range_succ]
noncomputable def dueOf (trees : List (Int × Int × Nat)) : Nat → List Dat
  | 0 => []
  | i + 1 => dueOf trees i ++ (match trees[i]? with | some x => dueT x.1 x.2.1 ((i : Int) + 1) x.2.2 | none => [])
theorem dat_eq {u u' l l' k : Int} (h1 : u = u') (h2 : l = l') : dat u l k = dat u' l' k := by subst h1 h2; rfl
theorem cons_eq {α : Type} {a b : α} {l m : List α} (h1 : a = b) (h2 : l = m) : a :: l = b :: m := by subst h1 h2; rfl
theorem due_part (p q ln : Int) : ∀ d, d = 2 ∨ d = 3 ∨ d = 4 → dueT p q ln d = part p q ln (2 ^ d - 1) := by
  rintro d (rfl | rfl | rfl)
  all_goals
    simp only [dueT, dueRow, part, List.range, List.range.loop, List.map_cons, List.map_nil, List.cons_append, List.nil_append, List.append_nil, Nat.reducePow, Nat.reduceSub, Nat.reduceAdd]
    repeat (first | rfl | (refine cons_eq (dat_eq (by simp [S, nd, tab, row] <;> omega) (by simp [S, nd, tab, row] <;> omega)) ?_))
theorem due_heard {trees : List (Int × Int × Nat)} (h : ∀ (i : Nat) (x : Int × Int × Nat), trees[i]? = some x → x.2.2 = 2 ∨ x.2.2 = 3 ∨ x.2.2 = 4) : ∀ i, dueOf trees i = heardOf trees i
  | 0 => rfl
  | i + 1 => by
    unfold dueOf heardOf
    rw [due_heard h i]
    cases hx : trees[i]? with
    | none => rfl
    | some x => simp only [due_part _ _ _ _ (h i x hx)]
end Mine
end

section
open PySem PySem.W PyProof.Rows PySem.Spec PySem.Calls PySem.Builtin
namespace Mine
noncomputable def DueSt (D : List Dat) (K : Nat) (bs keep : List (Addr × Obj)) (dl : Addr) (nx : List (Addr × Obj)) : Prop :=
  ∃ hv hn tl, nx = (dl, W.listOf hv hn) :: (tl ++ keep) ∧ bs <:+ tl ∧ (∀ y ∈ keep, ∀ x ∈ tl, y.1 ≠ x.1) ∧ (∀ x ∈ tl ++ keep, x.1 ≠ dl) ∧ DatAll tl hv.toList D ∧ hv.size ≤ K
theorem DueSt.enter {D : List Dat} {K : Nat} {bs keep own : List (Addr × Obj)} {dl : Addr} {nx : List (Addr × Obj)} (h : DueSt D K bs keep dl nx) (ho : OwnOff own (nx.map (·.1))) : DueSt D K bs (keep ++ own) dl (nx ++ own) := by
  obtain ⟨hv, hn, tl, rfl, h1, h2, h3, h4, h5⟩ := h
  refine ⟨hv, hn, tl, by simp, h1, ?_, ?_, h4, h5⟩
  · intro y hy x hx
    rcases List.mem_append.mp hy with hy | hy
    · exact h2 y hy x hx
    · exact ho y hy _ (List.mem_map.mpr ⟨x, by simp [hx], rfl⟩)
  · intro x hx
    rw [← List.append_assoc] at hx
    rcases List.mem_append.mp hx with hx | hx
    · exact h3 x hx
    · exact ho x hx _ (by simp)
theorem DueSt.leave {D D' : List Dat} {K K' : Nat} {bs keep own : List (Addr × Obj)} {dl : Addr} {nx nx' : List (Addr × Obj)} {A : (Str → Option Value) → Prop} {m' : Str → Option Value} {h₀ h' : Heap} {L : Addr} {s₁ : Shared} {tk : Nat}
    (h0 : DueSt D' K' bs keep dl nx) (h : DueSt D K bs (keep ++ own) dl nx') (ho : OwnOff own (nx.map (·.1))) (hA : A m') (F : Fr h₀ L h' m') (N : News h₀ L h' nx') :
    InvEndG h₀ L (fun m' nx => A m' ∧ DueSt D K bs keep dl nx) own s₁ { s₁ with heap := h', toks := tk } := by
  obtain ⟨hv, hn, tl, rfl, h1, h2, h3, h4, h5⟩ := h
  obtain ⟨hv0, hn0, tl0, rfl, _, _, _, _, _⟩ := h0
  refine InvEndG.intro (nx := (dl, W.listOf hv hn) :: (tl ++ keep)) F N ⟨hA, hv, hn, tl, rfl, h1, fun y hy x hx => h2 y (by simp [hy]) x hx, fun x hx => h3 x (by simp only [List.mem_append] at hx ⊢; rcases hx with h | h <;> simp [h]), h4, h5⟩ ?_ ?_ ?_
  · intro y hy b hb
    obtain ⟨x, hx, rfl⟩ := List.mem_map.mp hb
    rcases List.mem_cons.mp hx with rfl | hx
    · exact h3 y (by simp [hy])
    · rcases List.mem_append.mp hx with hx | hx
      · exact h2 y (by simp [hy]) x hx
      · exact ho y hy _ (List.mem_map.mpr ⟨x, by simp [hx], rfl⟩)
  · intro x hx
    simp only [List.mem_cons, List.mem_append] at hx ⊢
    rcases hx with h | h | h <;> simp [h]
  · intro x hx
    simp only [List.mem_cons, List.mem_append]
    simp [hx]
/-- one entry more -/
theorem DueSt.more {D : List Dat} {K : Nat} {bs keep own : List (Addr × Obj)} {dl : Addr} {hv : Array Value} {hn hn' : Nat} {tl : List (Addr × Obj)} {A : (Str → Option Value) → Prop} {m' : Str → Option Value} {h₀ h' : Heap} {L : Addr} {s₁ : Shared} {tk : Nat} {u l ln : Int} {b c e : Addr} {t1 t2 t3 t4 t5 : Tok} {n2 n3 n4 : Nat}
    (h : bs <:+ tl ∧ (∀ y ∈ keep, ∀ x ∈ tl, y.1 ≠ x.1) ∧ (∀ x ∈ tl ++ keep, x.1 ≠ dl) ∧ DatAll tl hv.toList D ∧ hv.size ≤ K) (ho : OwnOff own (((dl, W.listOf hv hn) :: (tl ++ keep)).map (·.1))) (hA : A m') (F : Fr h₀ L h' m')
    (N : News h₀ L h' ((dl, W.listOf (hv.push (.ref e)) hn') :: (e, tupObj [.ref b, .ref c, .int ln t5] n4) :: (c, tupObj [Value.str (Str.ofString "two") t1, .int l t2] n2) :: (b, tupObj [Value.str (Str.ofString "one") t3, .int u t4] n3) :: (tl ++ (keep ++ own))))
    (hb : ∀ x ∈ tl ++ (keep ++ own), @LT.lt Nat _ x.1 b) (hdb : @LT.lt Nat _ dl b) (hbc : @LT.lt Nat _ b c) (hce : @LT.lt Nat _ c e) :
    InvEndG h₀ L (fun m' nx => A m' ∧ DueSt (D ++ [dat u l ln]) (K + 1) bs keep dl nx) own s₁ { s₁ with heap := h', toks := tk } := by
  obtain ⟨h1, h2, h3, h4, h5⟩ := h
  have new : ∀ y : Addr, @LT.lt Nat _ y b → y ≠ b ∧ y ≠ c ∧ y ≠ e := fun y hy => ⟨Nat.ne_of_lt hy, Nat.ne_of_lt (Nat.lt_trans hy hbc), Nat.ne_of_lt (Nat.lt_trans hy (Nat.lt_trans hbc hce))⟩
  obtain ⟨d1, d2, d3⟩ := new dl hdb
  refine InvEndG.intro (nx := (dl, W.listOf (hv.push (.ref e)) hn') :: (((e, tupObj [.ref b, .ref c, .int ln t5] n4) :: (c, tupObj [Value.str (Str.ofString "two") t1, .int l t2] n2) :: (b, tupObj [Value.str (Str.ofString "one") t3, .int u t4] n3) :: tl) ++ keep)) F N
    ⟨hA, _, _, _, rfl, List.IsSuffix.trans h1 ⟨[_, _, _], rfl⟩, ?_, ?_, ?_, by rw [Array.size_push]; omega⟩ ?_ ?_ ?_
  · intro y hy x hx
    obtain ⟨y1, y2, y3⟩ := new y.1 (hb y (by simp [hy]))
    simp only [List.mem_cons] at hx
    rcases hx with h | h | h | h
    · rw [h]; exact y3
    · rw [h]; exact y2
    · rw [h]; exact y1
    · exact h2 y hy x h
  · intro x hx
    simp only [List.cons_append, List.mem_cons] at hx
    rcases hx with h | h | h | h
    · rw [h]; exact d3.symm
    · rw [h]; exact d2.symm
    · rw [h]; exact d1.symm
    · exact h3 x h
  · rw [Array.toList_push]
    refine DatAll.append (DatAll.mono (fun x hx => by simp [hx]) h4) (DatAll.one ?_)
    refine DatIn.tuple (vs := [.ref b, .ref c, .int ln t5]) (n := n4) (by simp) (.cons ?_ (.cons ?_ (.cons (.int _ _) .nil)))
    · exact DatIn.tuple (vs := [Value.str (Str.ofString "one") t3, .int u t4]) (n := n3) (by simp) (.cons (.str _ _) (.cons (.int _ _) .nil))
    · exact DatIn.tuple (vs := [Value.str (Str.ofString "two") t1, .int l t2]) (n := n2) (by simp) (.cons (.str _ _) (.cons (.int _ _) .nil))
  · intro y hy b' hb'
    obtain ⟨y1, y2, y3⟩ := new y.1 (hb y (by simp [hy]))
    obtain ⟨x, hx, rfl⟩ := List.mem_map.mp hb'
    simp only [List.cons_append, List.mem_cons] at hx
    rcases hx with h | h | h | h | h
    · rw [h]; exact ho y hy _ (by simp)
    · rw [h]; exact y3
    · rw [h]; exact y2
    · rw [h]; exact y1
    · exact ho y hy _ (List.mem_map.mpr ⟨x, List.mem_cons_of_mem _ h, rfl⟩)
  · intro x hx
    simp only [List.cons_append, List.mem_cons, List.mem_append] at hx ⊢
    rcases hx with h | h | h | h | h | h <;> simp [h]
  · intro x hx
    simp only [List.mem_cons, List.mem_append]
    simp [hx]
theorem Agree.trans_sub {S S' : List Str} {mo mi m' : Str → Option Value} (h : Agree S mi m') (h2 : Agree S' mo mi) (hs : ∀ z, S'.contains z = false → S.contains z = false) : Agree S' mo m' := fun z hz => (h z (hs z hz)).trans (h2 z hz)
section
variable {prog : Program} {w : World} {A : Around} {E : Value → Shared → Prop} {s : Shared} {h₀ : Heap} {L : Addr} {news : List (Addr × Obj)} {u : Tok} {Q : Value → Shared → Prop}
theorem item_any {value slice : PySem.Expr} {l : Addr} {vs : List Value} {k j : Nat} {i : Int} {v : Value} (N : News h₀ L s.heap news) (hm : (l, listOf vs.toArray k) ∈ news) (hv : vs[j]? = some v) (hi : i = (j : Int)) (hj : j < 2 ^ 63) (h : Q v s)
    (hs : subscripted slice false (.ref l) (.int i u) = operate [.ref l, .int i u] (getItem (.ref l) (.int i u)) := by with_unfolding_all rfl) :
    wpAny (model prog w) A (subscriptTail value slice (.ref l) (.int i u)) Q E s := by
  subst hi
  have hl := News.isList N hm
  exact tail_any hl.typeIs slot_list_getitem.lookup (wpAny_getItem_list hl (by omega) (by exact_mod_cast hj) (x := v) (by simpa using hv) h) hs
theorem item_S {value slice : PySem.Expr} {l : Addr} {vs : List Value} {k : Nat} {i : Int} (N : News h₀ L s.heap news) (hm : (l, listOf vs.toArray k) ∈ news) (hv : IntsAre vs [0, 1, 1, 2, 1, 3, 2, 3, 1]) (h0 : 0 ≤ i) (h1 : i < 9) (h : ∀ t', Q (.int (S i.toNat) t') s)
    (hs : subscripted slice false (.ref l) (.int i u) = operate [.ref l, .int i u] (getItem (.ref l) (.int i u)) := by with_unfolding_all rfl) :
    wpAny (model prog w) A (subscriptTail value slice (.ref l) (.int i u)) Q E s := by
  have hlt : i.toNat < ([0, 1, 1, 2, 1, 3, 2, 3, 1] : List Int).length := by
    show i.toNat < 9
    omega
  obtain ⟨t, ht⟩ := hv.get i.toNat (S i.toNat) (by unfold S; rw [List.getD_eq_getElem?_getD, List.getElem?_eq_getElem hlt]; rfl)
  exact item_any N hm ht (by omega) (by omega) (h t) hs
end
theorem S_bound : ∀ n, 0 ≤ S n ∧ S n ≤ 3 := by
  intro n
  by_cases h : n < 9
  · have : ∀ n < 9, 0 ≤ S n ∧ S n ≤ 3 := by decide +kernel
    exact this n h
  · unfold S
    rw [List.getD_eq_getElem?_getD, List.getElem?_eq_none (by simp; omega)]
    decide
end Mine
end

section
open PySem PySem.W PyProof.Rows PySem.Spec PySem.Calls PySem.Builtin
namespace Mine
theorem start_D1 : True := by
  w_top off
  trivial
noncomputable abbrev sD1 : List Str := [Str.ofString "p", Str.ofString "q", Str.ofString "depth", Str.ofString "place", Str.ofString "k", Str.ofString "j", Str.ofString "upper", Str.ofString "lower"]
noncomputable abbrev sD2 : List Str := [Str.ofString "k", Str.ofString "j", Str.ofString "upper", Str.ofString "lower"]
noncomputable abbrev sD3 : List Str := [Str.ofString "j", Str.ofString "upper", Str.ofString "lower"]
local macro_rules | `(tactic| k_room) => `(tactic| ktr_room)
local macro_rules | `(tactic| k_all) => `(tactic| first | assumption | (refine' allNe_of_lt ?h9 ?e9; (case h9 => assumption); (case e9 => omega)))
local macro_rules | `(tactic| walk_at "exec For") => `(tactic| refine stop ?_)
local macro_rules | `(tactic| walk_at "exec For Name Name cons nil") => `(tactic| refine stop ?_)
local macro_rules | `(tactic| walk_at "exec For Name Call cons nil") => `(tactic| refine stop ?_)
local macro_rules | `(tactic| walk_at "pyIter ref") => `(tactic| refine stop ?_)
local macro_rules | `(tactic| walk_at "call type:range") => `(tactic| ((rename Fr _ _ _ _ => F'); (rename News _ _ _ _ => N'); (with_unfolding_all (first | refine range2_rows F' N' ?_ | refine range1_rows F' N' ?_)); intro _ _ _ _ _ _ _ _ _))
local macro_rules | `(tactic| walk_at "binaryOp Pow int int") => `(tactic| (k_dflt (refine' pow_is ?p1 ?p2 ?p3 ?_; (case p1 => omega); (case p2 => omega); (case p3 => assumption))))
local macro_rules | `(tactic| walk_at "subscriptTail") => `(tactic| (k_here; k_dflt (first
  | (refine' item_S ?N ?m ?w ?h0 ?h1 ?_; (case N => k_asm); (case m => k_mem); (case w => assumption); (case h0 => omega); (case h1 => omega); intro _)
  | (refine' item_any ?N ?m ?w ?h0 ?h1 ?_; (case N => k_asm); (case m => k_mem); (case w => assumption); (case h0 => omega); (case h1 => omega)))))
local macro_rules | `(tactic| walk_at "call builtin:list.append") => `(tactic| (k_here; (with_reducible show wpAny _ _ (call (Value.builtin _) [Value.ref _, _]) _ _ _); k_dflt (refine' append_K ?k1 ?k2 ?k3 ?_ ?z; (case k1 => k_asm); (case k2 => k_asm); (case k3 => k_upd); (case z => (refine fit_le ?_; omega)); k_whole); intro h' F' N'))
local macro_rules | `(tactic| walk_at "call builtin:len") => `(tactic| (k_here; (with_reducible show wpAny _ _ (call (Value.builtin "len") [Value.ref _]) _ _ _); k_dflt (refine' kun_lenL ?k1 rfl ?k3 ?_; (case k1 => exact News.isList (by k_asm) (by k_mem)); (case k3 => (simp only [List.size_toArray]; omega)); k_whole)))
theorem sub21 (z : Str) (hz : sD1.contains z = false) : sD2.contains z = false := by
  simp only [List.contains_cons, List.contains_nil, Bool.or_false, Bool.or_eq_false_iff] at hz ⊢
  exact ⟨hz.2.2.2.2.1, hz.2.2.2.2.2.1, hz.2.2.2.2.2.2.1, hz.2.2.2.2.2.2.2⟩
theorem sub32 (z : Str) (hz : sD2.contains z = false) : sD3.contains z = false := by
  simp only [List.contains_cons, List.contains_nil, Bool.or_false, Bool.or_eq_false_iff] at hz ⊢
  exact ⟨hz.2.1, hz.2.2.1, hz.2.2.2⟩
theorem DueSt.le {D D' : List Dat} {K K' : Nat} {bs keep : List (Addr × Obj)} {dl : Addr} {nx : List (Addr × Obj)} (h : DueSt D K bs keep dl nx) (hD : D = D') (hK : K ≤ K') : DueSt D' K' bs keep dl nx := by
  subst hD
  obtain ⟨hv, hn, tl, e, h1, h2, h3, h4, h5⟩ := h
  exact ⟨hv, hn, tl, e, h1, h2, h3, h4, Nat.le_trans h5 hK⟩
theorem dueOf_succ {trees : List (Int × Int × Nat)} {i : Nat} {p q : Int} {d : Nat} (hx : trees[i]? = some (p, q, d)) : dueOf trees (i + 1) = dueOf trees i ++ dueT p q ((i : Int) + 1) d := by
  show dueOf trees i ++ (match trees[i]? with | some x => dueT x.1 x.2.1 ((i : Int) + 1) x.2.2 | none => []) = _
  rw [hx]
theorem news_ca {h₀ h : Heap} {L dl : Addr} {o : Obj} {y : Addr × Obj} {tl K own : List (Addr × Obj)} (N : News h₀ L h (((dl, o) :: (tl ++ K)) ++ own)) (hm : y ∈ tl) : News h₀ L h ((dl, o) :: y :: (tl ++ (K ++ own))) := fun p hp => N p (by
  simp only [List.cons_append, List.mem_cons, List.mem_append] at hp ⊢
  rcases hp with h | h | h | h | h
  · simp [h]
  · rw [h]; simp [hm]
  all_goals simp [h])
theorem news_dcb {h₀ h : Heap} {L : Addr} {e c b d y : Addr × Obj} {l : List (Addr × Obj)} (N : News h₀ L h (e :: c :: b :: d :: y :: l)) : News h₀ L h (d :: e :: c :: b :: l) := fun p hp => N p (by
  simp only [List.mem_cons] at hp ⊢
  rcases hp with h | h | h | h | h <;> simp [h])
theorem lt4 : ∀ k < 4, k = 0 ∨ k = 1 ∨ k = 2 ∨ k = 3 := by decide +kernel
theorem small_le : ∀ n < 17, Builtin.Range.small 0 ((n : Nat) : Int) 1 = true ∧ Builtin.Range.rangeSize 0 ((n : Nat) : Int) 1 = ((n : Nat) : Int) := by decide +kernel
set_option maxHeartbeats 1600000 in
theorem due_con {prog w mean mg mb} {trees : List (Int × Int × Nat)} {ta ca : Addr} {tv cv : List Value} {tn cn' : Nat} {rest : List (Addr × Obj)} (hlen : tv.length = trees.length) (hl3 : trees.length ≤ 3) (hcv : IntsAre cv [0, 1, 1, 2, 1, 3, 2, 3, 1])
   (htr : ∀ (i : Nat) (x : Int × Int × Nat), trees[i]? = some x → ∃ a n t1 t2 t3, tv[i]? = some (.ref a) ∧ (a, tupObj [.int x.1 t1, .int x.2.1 t2, .int (x.2.2 : Int) t3] n) ∈ rest)
   (hok : ∀ (i : Nat) (x : Int × Int × Nat), trees[i]? = some x → (0 ≤ x.1 ∧ x.1 < 1000) ∧ (0 ≤ x.2.1 ∧ x.2.1 < 1000) ∧ (x.2.2 = 2 ∨ x.2.2 = 3 ∨ x.2.2 = 4)) :
   Con prog w mean mg mb 130 [.ref ta, .ref ca] ((ta, W.listOf tv.toArray tn) :: (ca, W.listOf cv.toArray cn') :: rest) 2 20 (fun r news' => ∃ dl hv hn nw, r = .ref dl ∧ DatAll (((ta, W.listOf tv.toArray tn) :: (ca, W.listOf cv.toArray cn') :: rest) ++ nw) hv.toList (dueOf trees trees.length) ∧ news' = (dl, W.listOf hv hn) :: (((ta, W.listOf tv.toArray tn) :: (ca, W.listOf cv.toArray cn') :: rest) ++ nw)) := by
  unfold Con
  refine rowSay ?_
  k_fill
  intro _
  intro dp un gd cn cs a ccd cl outer A₀ base h₀ L m s R B F X N C0 T hk hd hu hret
  k_dflt cell_enter
  k_steps
  unfold Stop
  (rename Fr _ _ _ _ => F1)
  refine For_invVF F1 rfl rfl ?_
  k_steps
  unfold Stop
  (rename News _ _ _ _ => N1)
  (rename Fr _ _ _ _ => F2)
  (rename IsRange _ _ _ _ _ _ _ _ => r1)
  have hsz : tv.toArray.size = trees.length := by simp [hlen]
  obtain ⟨sm1, sm2⟩ := small_le tv.toArray.size (by omega)
  refine range_iter (n := tv.toArray.size) (fun i m' nx => Agree sD1 _ m' ∧ DueSt (dueOf trees i) (16 * i) ((ta, W.listOf tv.toArray tn) :: (ca, W.listOf cv.toArray cn') :: rest) [] _ nx) rfl r1 sm1 sm2 F2 N1 ⟨Agree.refl _ _, #[], 0, _, by rw [List.append_nil], List.suffix_refl _, fun _ h => (nomatch h), ?ne, .nil, Nat.zero_le _⟩ ?turn ?done
  case ne =>
    (rename (_ < _ ∧ _ < _ ∧ AllLt _ _) => o1)
    intro x hx
    rw [List.append_nil] at hx
    rcases List.mem_cons.mp hx with h | hx
    · rw [h]; exact Nat.ne_of_lt o1.1
    · rcases List.mem_cons.mp hx with h | hx
      · rw [h]; exact Nat.ne_of_lt o1.2.1
      · exact Nat.ne_of_lt (allLt_all o1.2.2 x hx)
  case turn =>
    rintro i m₁ nx h tk own t hi hoff ⟨hm, hJ⟩ F3 N3
    refine gen_post fun K1 hK1 => ?_
    rw [hm.map] at F3
    have hi' : i < trees.length := by omega
    have hx : trees[i]? = some trees[i] := List.getElem?_eq_getElem hi'
    obtain ⟨a1, n1, t1, t2, t3, hta, hmem⟩ := htr i _ hx
    obtain ⟨hp, hq, hd4⟩ := hok i _ hx
    have hSt := hJ.enter hoff
    obtain ⟨hv, hn, tl, hnx, hsuf, hk1, hk2, hdat, hvz⟩ := id hSt
    have hin : ∀ y ∈ (ta, W.listOf tv.toArray tn) :: (ca, W.listOf cv.toArray cn') :: rest, y ∈ tl := fun y hy => hsuf.subset hy
    have N4 : News _ _ h ((ta, W.listOf tv.toArray tn) :: (a1, tupObj [.int trees[i].1 t1, .int trees[i].2.1 t2, .int (trees[i].2.2 : Int) t3] n1) :: (nx ++ own)) := fun p hp => by
      simp only [List.mem_cons] at hp
      rcases hp with h | h | h
      · rw [h]; exact N3 _ (hnx ▸ (List.mem_cons_of_mem _ (List.mem_append_left _ (hin _ (by simp)))))
      · rw [h]; exact N3 _ (hnx ▸ (List.mem_cons_of_mem _ (List.mem_append_left _ (hin _ (by simp [hmem])))))
      · exact N3 p h
    generalize hxe : trees[i] = x at *
    obtain ⟨p, q, d⟩ := x
    dsimp only at hp hq hd4 N4
    have hit : (0 : Int) + (i : Int) = ((i : Nat) : Int) := by omega
    k_steps
    unfold Stop
    (rename Fr _ _ _ _ => F4)
    refine For_invVF F4 rfl rfl ?_
    k_steps
    unfold Stop
    (rename News _ _ _ _ => N5)
    (rename Fr _ _ _ _ => F5)
    (rename IsRange _ _ _ _ _ _ _ _ => r2)
    obtain ⟨sm3, sm4⟩ := small_le d (by omega)
    have N5' : News _ _ _ (nx ++ own) := fun p hp => N5 p (by simp [hp])
    refine range_iter (n := d) (fun k m' nx' => Agree sD2 _ m' ∧ DueSt (dueOf trees i ++ dueT p q ((i : Int) + 1) k) (16 * i + (2 ^ k - 1)) ((ta, W.listOf tv.toArray tn) :: (ca, W.listOf cv.toArray cn') :: rest) ([] ++ own) _ nx') rfl r2 sm3 sm4 F5 N5' ⟨Agree.refl _ _, hSt.le (by simp [dueT]) (by simp)⟩ ?turn2 ?done2
    case done2 =>
      rintro m₃ nx3 h3 tk3 ⟨hm3, hJ3⟩ F6 N6
      k_steps
      refine hK1 _ ?_
      refine hJ.leave (hJ3.le ?_ ?_) hoff ?_ F6 N6
      · exact (dueOf_succ hx).symm
      · rcases hd4 with rfl | rfl | rfl <;> omega
      · refine Agree.trans_sub hm3 ?_ sub21
        repeat (first | exact agree_base | refine Agree.put ?_ (by decide))
    case turn2 =>
      rintro k m₂ nx2 h2 tk2 own2 t' hk' hoff2 ⟨hm2, hJ2⟩ F6 N6
      refine gen_post fun K2 hK2 => ?_
      rw [hm2.map] at F6
      have hSt2 := hJ2.enter hoff2
      have hk4 : k < 4 := by omega
      have hpw : (2 : Int) ^ ((0 : Int) + (k : Int)).toNat = ((2 ^ k : Nat) : Int) := by simp
      have hp16 : 2 ^ k < 9 := by
        have := lt4 k hk4
        rcases this with h | h | h | h <;> rw [h] <;> decide
      k_steps
      unfold Stop
      (rename Fr _ _ _ _ => F7)
      refine For_invVF F7 rfl rfl ?_
      k_steps
      unfold Stop
      (rename News _ _ _ _ => N8)
      (rename Fr _ _ _ _ => F8)
      (rename IsRange _ _ _ _ _ _ _ _ => r3)
      obtain ⟨sm5, sm6⟩ := small_le (2 ^ k) (by omega)
      refine range_iter (n := 2 ^ k) (fun j m' nx' => Agree sD3 _ m' ∧ DueSt (dueOf trees i ++ dueT p q ((i : Int) + 1) k ++ dueRow p q ((i : Int) + 1) k j) (16 * i + (2 ^ k - 1) + j) ((ta, W.listOf tv.toArray tn) :: (ca, W.listOf cv.toArray cn') :: rest) ([] ++ own ++ own2) _ nx') rfl r3 sm5 sm6 F8 N8 ⟨Agree.refl _ _, hSt2.le (by simp [dueRow]) (by simp)⟩ ?turn3 ?done3
      case done3 =>
        rintro m₃ nx3 h3 tk3 ⟨hm3, hJ3⟩ F9 N9
        k_steps
        refine hK2 _ ?_
        refine hJ2.leave (hJ3.le ?_ ?_) hoff2 ?_ F9 N9
        · simp [dueT]
        · have : 2 ^ (k + 1) = 2 ^ k + 2 ^ k := by rw [Nat.pow_succ]; omega
          omega
        · refine Agree.trans_sub hm3 ?_ sub32
          repeat (first | exact agree_base | refine Agree.put ?_ (by decide))
      case turn3 =>
        rintro j m₃ nx3 h3 tk3 own3 t'' hj hoff3 ⟨hm3, hJ3⟩ F9 N9
        refine gen_post fun K3 hK3 => ?_
        rw [hm3.map] at F9
        clear sm1 sm2 sm3 sm4 sm5 sm6 r1 r2 r3 hsz
        obtain ⟨hv3, hn3, tl3, rfl, hst3⟩ := hJ3
        obtain ⟨hsuf3, hk31, hk32, hdat3, hvz3⟩ := id hst3
        have hca : (ca, W.listOf cv.toArray cn') ∈ tl3 := hsuf3.subset (by simp)
        have hcd := hk32 _ (List.mem_append_left _ hca)
        have hne3 : ∀ x ∈ tl3 ++ ([] ++ own ++ own2 ++ own3), x.1 ≠ _ := fun x hx => by
          rw [← List.append_assoc] at hx
          exact (List.mem_append.mp hx).elim (hk32 x) fun h => hoff3 x h _ (by simp)
        have N9' := news_ca N9 hca
        clear N9
        have hb := S_bound
        generalize hE : 2 ^ k = E at *
        k_steps
        have i1 : ((E : Int) - (0 + (j : Int))).toNat = E - j := by omega
        have i2 : ((0 : Int) + (j : Int)).toNat = j := by omega
        have i3 : ((E : Int) - (0 + (j : Int)) - 1).toNat = E - j - 1 := by omega
        have i4 : ((0 : Int) + (j : Int) + 1).toNat = j + 1 := by omega
        have i5 : (0 : Int) + (i : Int) + 1 = (i : Int) + 1 := by omega
        (rename News _ _ _ _ => N10)
        (rename Fr _ _ _ _ => F10)
        simp only [i1, i2, i3, i4, i5] at N10
        refine hK3 _ ?_
        rw [dueRow_succ, ← List.append_assoc, hE]
        (rename (_ < _ ∧ _ < _ ∧ AllLt _ _) => o1)
        (rename (_ < _ ∧ _ < _ ∧ _ < _ ∧ AllLt _ _) => o2)
        (rename (_ < _ ∧ _ < _ ∧ _ < _ ∧ _ < _ ∧ AllLt _ _) => o3)
        refine DueSt.more hst3 hoff3 ?ag F10 (news_dcb N10) (allLt_all o1.2.2) o1.1 o2.1 o3.1
        repeat (first | exact agree_base | refine Agree.put ?_ (by decide))
  case done =>
    rintro m₁ nx h tk ⟨hm, hJ⟩ F3 N3
    rw [hm.map] at F3
    rw [hsz] at hJ
    obtain ⟨hv, hn, tl, rfl, ⟨nw, rfl⟩, _, hne, hdat, _⟩ := hJ
    k_steps
    (rename News _ _ _ _ => N4)
    refine hret _ _ _ _ (by k_asm) ?nn ⟨_, hv, hn, nw, rfl, ?dd, rfl⟩
    case nn => exact fun p hp => N4 p (by
      simp only [List.mem_cons, List.mem_append] at hp ⊢
      rcases hp with h | (h | h | h) | h <;> simp [h])
    case dd => exact DatAll.mono (fun x hx => by simp only [List.mem_append] at hx ⊢; exact hx.symm) hdat
end Mine
end

section
open PySem PySem.W PyProof.Rows PySem.Spec PySem.Calls PySem.Builtin
namespace Mine
section
variable {prog : Program} {w : World} {A : Around} {E : Value → Shared → Prop} {s : Shared} {h₀ : Heap} {env : Env} {x : Str} {px : Pos} {body orelse : List Stmt} {Q : Flow → Shared → Prop} {m₀ : Str → Option Value} {news : List (Addr × Obj)} {r : Addr} {a₀ b₀ : Int} {t₀ u₀ v₀ : Tok} {n : Nat}
/-- a for over a range with an else -/
theorem range_else (J : Nat → (Str → Option Value) → List (Addr × Obj) → Prop) (hh : A.handled = none) (hx : env.kindOf x = some .local)
    (hp : (env.scope.kind == .class || (env.scope.kind == .module && env.locals != env.globals)) = false)
    (hr : IsRange s.heap r a₀ b₀ 1 t₀ u₀ v₀) (hsmall : Builtin.Range.small a₀ b₀ 1 = true) (hsz : Builtin.Range.rangeSize a₀ b₀ 1 = (n : Int))
    (F : Fr h₀ env.locals s.heap m₀) (N : News h₀ env.locals s.heap news) (hj : J 0 m₀ news)
    (turn : ∀ i m₁ nx h tk own t, i < n → OwnOff own (nx.map (·.1)) → J i m₁ nx → Fr h₀ env.locals h (fun y => if y = x then some (.int (a₀ + (i : Int)) t) else m₁ y) → News h₀ env.locals h (nx ++ own) →
      wpAny (model prog w) A (execs body env) (InvPostG h₀ env.locals (J (i + 1)) own { s with heap := h, toks := tk } Q) E { s with heap := h, toks := tk })
    (done : ∀ m₁ nx h tk, J n m₁ nx → Fr h₀ env.locals h m₁ → News h₀ env.locals h nx → wpAny (model prog w) A (execs orelse env) Q E { s with heap := h, toks := tk })
    (hE : PassesOwn (model prog w) A env E := by passes_own) :
    wpAny (model prog w) A (pyIter (.ref r)) (fun it s₂ => codeAny (model prog w) A (.forLoop (.Name x px) it body orelse env) (fun r s' => match r with | .ok f => Q f s' | .error e => cameBackBy (model prog w) A env E e s') s₂) E s := by
  refine wpAny_pyIter_range hr hsmall ?_
  have hnew := next_is_new F
  have hIL : s.heap.objs.size ≠ env.locals := fun e => absurd F.ns.lt (e ▸ Nat.lt_irrefl _)
  have W := Walks.range (prog := prog) (w := w) hh s.heap.objs.size a₀ 1 n
  have key : ∀ (j i : Nat) (m₁ : Str → Option Value) (nx : List (Addr × Obj)) (h : Heap) (tk : Nat), i + j = n → IsRangeIter h s.heap.objs.size (a₀ + (i : Int) * 1) ((n : Int) - (i : Int)) 1 → (∀ p ∈ nx, p.1 ≠ s.heap.objs.size) → J i m₁ nx → Fr h₀ env.locals h m₁ → News h₀ env.locals h nx →
      codeAny (model prog w) A (.forLoop (.Name x px) (.ref s.heap.objs.size) body orelse env) (fun r s' => match r with | .ok f => Q f s' | .error e => cameBackBy (model prog w) A env E e s') { s with heap := h, toks := tk } := by
    intro j
    have nxt : ∀ {m₁ : Str → Option Value} {nx : List (Addr × Obj)} {h h₁ : Heap}, (∀ p ∈ nx, p.1 ≠ s.heap.objs.size) → Fr h₀ env.locals h m₁ → News h₀ env.locals h nx → (∀ b o, b ∉ [s.heap.objs.size] → h.get? b = some o → h₁.get? b = some o) → Fr h₀ env.locals h₁ m₁ ∧ News h₀ env.locals h₁ nx := by
      intro m₁ nx h h₁ hne F₁ N₁ hk
      refine ⟨⟨F₁.ns.at' fun o e => hk _ o (fun hm => hIL (List.mem_singleton.mp hm).symm) e, fun b o e => hk b o (fun hm => ?_) (F₁.keep b o e), F₁.above⟩, fun p hp => ⟨hk _ _ (fun hm => hne p hp (List.mem_singleton.mp hm)) (N₁ p hp).1, (N₁ p hp).2⟩⟩
      rw [List.mem_singleton.mp hm, hnew] at e
      cases e
    induction j with
    | zero =>
      intro i m₁ nx h tk hi hst hne hJ F₁ N₁
      have e : i = n := by omega
      subst e
      refine forLoop_turn (W.done { s with heap := h, toks := tk } _ _ hst fun h₁ tk₁ hk₁ => ?_)
      obtain ⟨F₂, N₂⟩ := nxt hne F₁ N₁ hk₁
      exact wpAny_passesOwn hE (done m₁ nx h₁ tk₁ hJ F₂ N₂)
    | succ j ih =>
      intro i m₁ nx h tk hi hst hne hJ F₁ N₁
      refine forLoop_turn (W.item i { s with heap := h, toks := tk } _ _ (by omega) hst fun v h₁ tk₁ hv hst₁ hk₁ => ?_)
      obtain ⟨t, rfl⟩ := hv
      obtain ⟨F₂, N₂⟩ := nxt hne F₁ N₁ hk₁
      refine wpAny_assign_Name (wpAny_storeName_local hx F₂.ns (fun h₂ hn₂ hs₂ => ?_) hp)
      have F₃ := F₂.set hn₂ hs₂
      have N₃ := N₂.set hs₂
      obtain ⟨O, hI₃, hO⟩ : ∃ O : Obj, h₂.get? s.heap.objs.size = some O ∧ ∀ h' : Heap, h'.get? s.heap.objs.size = some O → IsRangeIter h' s.heap.objs.size (a₀ + ((i + 1 : Nat) : Int) * 1) ((n : Int) - ((i + 1 : Nat) : Int)) 1 := ⟨_, (hs₂.2 s.heap.objs.size hIL).trans hst₁, fun _ e => e⟩
      have hoff : OwnOff [(s.heap.objs.size, O)] (nx.map (·.1)) := by
        intro p hp b hb e
        obtain ⟨q, hq, rfl⟩ := List.mem_map.mp hb
        rw [List.mem_singleton.mp hp] at e
        exact hne q hq e.symm
      rw [Int.mul_one] at F₃
      refine wpAny_passesOwn hE (wpAny_mono (turn i m₁ nx h₂ (tk₁ + 1) [(s.heap.objs.size, O)] t (by omega) hoff hJ F₃ (N₃.append fun p hp => ?_)) (fun f s₂ p => ?_) fun _ _ e => e)
      · rw [List.mem_singleton.mp hp]
        exact ⟨hI₃, hIL, hnew⟩
      · have fin : InvEndG h₀ env.locals (J (i + 1)) [(s.heap.objs.size, O)] { s with heap := h₂, toks := tk₁ + 1 } s₂ → codeAny (model prog w) A (.forLoop (.Name x px) (.ref s.heap.objs.size) body orelse env) (fun r s' => match r with | .ok f => Q f s' | .error e => cameBackBy (model prog w) A env E e s') s₂ := by
          rintro ⟨h', tk', m', news', nx', rfl, F', N', hn, ho, ha, hm⟩
          refine ih (i + 1) m' nx' h' tk' (by omega) (hO _ (N' _ (ho _ (List.mem_singleton.mpr rfl))).1) (fun p hp e => ?_) hm F' fun p hp => N' p (hn p hp)
          exact ha _ (List.mem_singleton.mpr rfl) p.1 (List.mem_map.mpr ⟨p, hp, rfl⟩) e.symm
        cases f with
        | ret v => exact p
        | brk => exact p
        | next => exact fin p
        | cont => exact fin p
  refine key n 0 m₀ news _ _ (by omega) ?_ (fun p hp e => ?_) hj (F.push _) fun p hp => ⟨Heap.get?_push_of_some _ (N p hp).1, (N p hp).2⟩
  · show IsRangeIter _ _ _ _ _
    rw [hsz]
    simpa using Heap.get?_push_size _ rfl
  · exact absurd (Heap.lt_size (N p hp).1) (e ▸ Nat.lt_irrefl _)
end
end Mine
end

section
open PySem PySem.W PyProof.Rows PySem.Spec PySem.Calls PySem.Builtin
namespace Mine
theorem start_P2 : True := by
  w_top off
  trivial
noncomputable def nm (j : Nat) : Str := ([Str.ofString "OPTIMIZED", Str.ofString "NEWLOCALS", Str.ofString "VARARGS", Str.ofString "VARKEYWORDS", Str.ofString "NESTED", Str.ofString "GENERATOR", Str.ofString "NOFREE", Str.ofString "COROUTINE", Str.ofString "ITERABLE_COROUTINE", Str.ofString "ASYNC_GENERATOR", Str.ofString "0x400"]).getD j (Str.ofString "")
noncomputable def left (f i : Nat) : Nat := (f >>> i) <<< i
noncomputable def gone (f i : Nat) : List Nat := (List.range i).filter fun j => f.testBit j
theorem bits_set : ∀ n < 8, ∀ s < 9, ∀ i < 32, (n * 2 ^ s).testBit i = true → i < 11 ∧ Builtin.bitAnd (left (n * 2 ^ s) i : Int) ((2 ^ i : Nat) : Int) = ((2 ^ i : Nat) : Int) ∧ Builtin.bitXor (left (n * 2 ^ s) i : Int) ((2 ^ i : Nat) : Int) = (left (n * 2 ^ s) (i + 1) : Int) := by decide +kernel
theorem bits_not : ∀ n < 8, ∀ s < 9, ∀ i < 32, (n * 2 ^ s).testBit i = false → Builtin.bitAnd (left (n * 2 ^ s) i : Int) ((2 ^ i : Nat) : Int) = 0 ∧ left (n * 2 ^ s) (i + 1) = left (n * 2 ^ s) i := by decide +kernel
theorem left_end : ∀ n < 8, ∀ s < 9, ∀ i < 32, left (n * 2 ^ s) (i + 1) = 0 → gone (n * 2 ^ s) (i + 1) = gone (n * 2 ^ s) 32 := by decide +kernel
theorem left_all : ∀ n < 8, ∀ s < 9, left (n * 2 ^ s) 32 = 0 := by decide +kernel
theorem gone_len : ∀ n < 8, ∀ s < 9, (((gone (n * 2 ^ s) 32).map nm).map (·.length)).sum + ((gone (n * 2 ^ s) 32).map nm).length ≤ 1048576 := by decide +kernel
theorem gone_set {f i : Nat} (h : f.testBit i = true) : gone f (i + 1) = gone f i ++ [i] := by
  unfold gone
  rw [List.range_succ, List.filter_append]
  simp [h]
theorem gone_not {f i : Nat} (h : f.testBit i = false) : gone f (i + 1) = gone f i := by
  unfold gone
  rw [List.range_succ, List.filter_append]
  simp [h]
noncomputable def pf (n s : Nat) : Str := if n * 2 ^ s = 0 then Str.ofString "0x0" else Txt.join (Str.ofString ", ") ((gone (n * 2 ^ s) 32).map nm)
noncomputable abbrev storedP : List Str := [Str.ofString "i", Str.ofString "flag", Str.ofString "flags"]
theorem Agree.mapF {stored : List Str} {m₀ m : Str → Option Value} {x : Str} {v : Value} (h : Agree stored m₀ m) (hx : m x = some v) : m = fun z => if z = x then some v else if stored.contains z then m z else m₀ z := by
  funext z
  by_cases hz : z = x
  · rw [if_pos hz, hz, hx]
  · rw [if_neg hz]
    exact congrFun h.map z
section
variable {prog : Program} {w : World} {A : Around} {E : Value → Shared → Prop} {s : Shared}
theorem shl_is {t u : Tok} {n e : Int} {Q : Value → Shared → Prop} (he : (1 : Int) * 2 ^ n.toNat = e) (h0 : 0 ≤ n) (h1 : n ≤ 1000000) (h : Q (.int e s.toks) { s with toks := s.toks + 1 }) : wpAny (model prog w) A (binaryOp .LShift (.int 1 t) (.int n u)) Q E s := by
  subst he; exact lshift_int_small h0 h1 (by decide) h
theorem and_is {t u : Tok} {a b e : Int} {Q : Value → Shared → Prop} (he : Builtin.bitAnd a b = e) (h : Q (.int e s.toks) { s with toks := s.toks + 1 }) : wpAny (model prog w) A (binaryOp .BitAnd (.int a t) (.int b u)) Q E s := by
  subst he; exact and_int h
theorem ixor_is {t u : Tok} {a b e : Int} {Q : Value → Shared → Prop} (he : Builtin.bitXor a b = e) (h : Q (.int e s.toks) { s with toks := s.toks + 1 }) : wpAny (model prog w) A (inplaceOp .BitXor (.int a t) (.int b u)) Q E s := by
  subst he; exact ixor_int h
end
local macro_rules | `(tactic| k_all) => `(tactic| first | assumption | (refine' allNe_of_lt ?h9 ?e9; (case h9 => assumption); (case e9 => omega)))
local macro_rules | `(tactic| k_room) => `(tactic| ktr_room)
local macro_rules | `(tactic| walk_at "exec For") => `(tactic| refine stop ?_)
local macro_rules | `(tactic| walk_at "exec For Name Call cons cons") => `(tactic| refine stop ?_)
local macro_rules | `(tactic| walk_at "pyIter ref") => `(tactic| refine stop ?_)
local macro_rules | `(tactic| walk_at "call builtin:str.join") => `(tactic| refine stop ?_)
local macro_rules | `(tactic| walk_at "call type:range") => `(tactic| ((rename Fr _ _ _ _ => F'); (rename News _ _ _ _ => N'); (with_unfolding_all refine range1_rows F' N' ?_); intro _ _ _ _ _ _ _ _ _))
local macro_rules | `(tactic| walk_at "binaryOp LShift int int") => `(tactic| (k_dflt (refine' shl_is ?p1 ?p2 ?p3 ?_; (case p1 => assumption); (case p2 => omega); (case p3 => omega))))
local macro_rules | `(tactic| walk_at "binaryOp BitAnd int int") => `(tactic| (k_dflt (refine' and_is ?p1 ?_; (case p1 => assumption))))
local macro_rules | `(tactic| walk_at "inplaceOp BitXor int int") => `(tactic| (k_dflt (refine' ixor_is ?p1 ?_; (case p1 => assumption))))
theorem fit_le2 {n : Nat} (h : n ≤ 2000) : n ≤ sizeLine := Nat.le_trans h (by decide)
theorem hex_room {e : Int} (h : 1 ≤ e ∧ e ≤ 1024) : (baseText "0x" 16 e).length ≤ sizeLine := by
  have := (fact_hex e).2
  exact fit_le2 (by omega)
theorem pow_range : ∀ i < 11, 1 ≤ ((2 ^ i : Nat) : Int) ∧ ((2 ^ i : Nat) : Int) ≤ 1024 := by decide +kernel
theorem hex10 : baseText "0x" 16 1024 = nm 10 := by decide +kernel
theorem lt11 : ∀ i < 11, i = 0 ∨ i = 1 ∨ i = 2 ∨ i = 3 ∨ i = 4 ∨ i = 5 ∨ i = 6 ∨ i = 7 ∨ i = 8 ∨ i = 9 ∨ i = 10 := by decide +kernel
theorem get_then {M : Model} {A : Around} {E : Value → Shared → Prop} {s : Shared} {c : Sem Value} {x : Str} {Q : Value → Shared → Prop} (h1 : wpAny M A c (fun v s' => ∃ t' k, v = .str x t' ∧ s' = { s with toks := k }) E s) (h2 : ∀ t' k, Q (.str x t') { s with toks := k }) : wpAny M A c Q E s :=
  wpAny_mono h1 (fun v s' hv => by
    obtain ⟨t', k, e1, e2⟩ := hv
    rw [e1, e2]
    exact h2 t' k) fun _ _ e => e
local macro_rules | `(tactic| walk_at "call builtin:hex") => `(tactic| (k_dflt (refine' P.hex_of_int ?_ ?hsz; (case hsz => exact hex_room (by assumption)))))
local macro_rules | `(tactic| walk_at "call builtin:dict.get") => `(tactic| refine stop ?_)
local macro_rules | `(tactic| walk_at "ite") => `(tactic| first | (refine ite_not ?hno ?_; (case hno => with_reducible assumption)) | (refine ite_yes ?hyes ?_; (case hyes => with_reducible assumption)))
local macro_rules | `(tactic| walk_at "call builtin:list.append") => `(tactic| (k_here; (with_reducible show wpAny _ _ (call (Value.builtin _) [Value.ref _, _]) _ _ _); k_dflt (refine' append_K ?k1 ?k2 ?k3 ?_ ?z; (case k1 => k_asm); (case k2 => k_asm); (case k3 => k_upd); (case z => (refine fit_le ?_; omega)); k_whole); intro h' F' N'))
set_option maxHeartbeats 1000000 in
theorem pretty_con {prog w mean mg mb} (n z : Nat) (hn : n < 8) (hs : z < 9) (t : Tok) (news) : ConV prog w mean mg mb 64 [.int ((n * 2 ^ z : Nat) : Int) t] news 1 20 (.str (pf n z)) := by
  have hS := bits_set n hn z hs
  have hU := bits_not n hn z hs
  have hE := left_end n hn z hs
  have hL := left_all n hn z hs
  have hG := gone_len n hn z hs
  have hpf : pf n z = if n * 2 ^ z = 0 then Str.ofString "0x0" else Txt.join (Str.ofString ", ") ((gone (n * 2 ^ z) 32).map nm) := rfl
  have hfl : left (n * 2 ^ z) 0 = n * 2 ^ z := by simp [left]
  generalize hf : n * 2 ^ z = f at *
  unfold ConV Con
  refine rowSay ?_
  k_fill
  intro _
  intro dp un gd cn cs a ccd cl outer A₀ base h₀ L m s R B F X N C0 T hk hd hu hret
  k_dflt cell_enter
  k_steps
  unfold Stop
  refine wpAny_For ?_
  k_steps
  unfold Stop
  (rename News _ _ _ _ => N3)
  (rename Fr _ _ _ _ => F3)
  (rename IsRange _ _ _ _ _ _ _ _ => r3)

  (rename (∀ p ∈ news, _) => l9)
  refine range_else (n := 32) (fun i m' nx => Agree storedP _ m' ∧ (∃ tf, m' (Str.ofString "flags") = some (.int (left f i : Int) tf)) ∧ ∃ hv hn, nx = (_, W.listOf hv hn) :: news ∧ StrsAre hv.toList ((gone f i).map nm) ∧ hn ≤ i ∧ hv.size ≤ i ∧ (f = 0 ∨ left f i ≠ 0)) rfl rfl rfl r3 (by decide) (by decide) F3 N3 ⟨Agree.refl _ _, ⟨_, by rw [hfl]; rfl⟩, _, _, rfl, .nil, Nat.zero_le _, Nat.zero_le _, by rw [hfl]; omega⟩ ?turn ?done
  case turn =>
    rintro i m₁ nx h tk own t hi hoff ⟨hm, ⟨tf, hmf⟩, hv, hn, rfl, hvs, hn1, hn2, h0⟩ F4 N4
    rw [hm.mapF hmf] at F4
    have N4' : News _ _ h ((_, W.listOf hv hn) :: (news ++ own)) := N4
    clear N4
    have hne : ∀ x ∈ news ++ own, x.1 ≠ _ := fun x hx => (List.mem_append.mp hx).elim (fun h => Nat.ne_of_lt (l9 x h)) fun h => hoff x h _ List.mem_cons_self
    cases hb : f.testBit i with
    | false =>
      have e0 : (1 : Int) * 2 ^ ((0 : Int) + (i : Int)).toNat = ((2 ^ i : Nat) : Int) := by simp
      obtain ⟨e1, e2⟩ := hU i hi hb
      k_steps
      (rename News _ _ _ _ => N5)
      (rename Fr _ _ _ _ => F5)
      refine InvEndG.intro (nx := (_, W.listOf hv hn) :: news) F5 N5 ⟨?ag, ⟨_, by rw [e2]; rfl⟩, _, _, rfl, by rw [gone_not hb]; exact hvs, by omega, by omega, by rw [e2]; exact h0⟩ hoff (fun x hx => ?_) (fun x hx => ?_)
      case ag => repeat (first | exact agree_base | refine Agree.put ?_ (by decide))
      · exact List.mem_append_left own hx
      · exact List.mem_append_right (_ :: news) hx
    | true =>
      obtain ⟨hi11, e1, e2⟩ := hS i hi hb
      have hg := gone_set hb
      have hf0 : f ≠ 0 := fun h => by rw [h] at hb; simp at hb
      have e0 : (1 : Int) * 2 ^ ((0 : Int) + (i : Int)).toNat = ((2 ^ i : Nat) : Int) := by simp
      have he : ∃ e : Int, ((2 ^ i : Nat) : Int) = e ∧ (1 ≤ e ∧ e ≤ 1024) := ⟨_, rfl, pow_range i hi11⟩
      obtain ⟨e, he, hne0⟩ := he
      rw [he] at e0 e1 e2
      k_steps
      rotate_left
      · exfalso
        omega
      unfold Stop
      refine get_then (x := nm i) ?get ?_
      case get =>
        have hi' := lt11 i hi11
        rcases hi' with rfl | rfl | rfl | rfl | rfl | rfl | rfl | rfl | rfl | rfl | rfl
        · rw [show e = 1 from he.symm]
          first
            | kt_at_get
            | (k_here; walk_plain_pass; kt_k; kt_at_get)
          walk1
          walk1
          first
            | exact ⟨_, _, rfl, rfl⟩
            | exact fun _ => ⟨_, _, rfl, rfl⟩
        · rw [show e = 2 from he.symm]
          first
            | kt_at_get
            | (k_here; walk_plain_pass; kt_k; kt_at_get)
          walk1
          walk1
          first
            | exact ⟨_, _, rfl, rfl⟩
            | exact fun _ => ⟨_, _, rfl, rfl⟩
        · rw [show e = 4 from he.symm]
          first
            | kt_at_get
            | (k_here; walk_plain_pass; kt_k; kt_at_get)
          walk1
          walk1
          first
            | exact ⟨_, _, rfl, rfl⟩
            | exact fun _ => ⟨_, _, rfl, rfl⟩
        · rw [show e = 8 from he.symm]
          first
            | kt_at_get
            | (k_here; walk_plain_pass; kt_k; kt_at_get)
          walk1
          walk1
          first
            | exact ⟨_, _, rfl, rfl⟩
            | exact fun _ => ⟨_, _, rfl, rfl⟩
        · rw [show e = 16 from he.symm]
          first
            | kt_at_get
            | (k_here; walk_plain_pass; kt_k; kt_at_get)
          walk1
          walk1
          first
            | exact ⟨_, _, rfl, rfl⟩
            | exact fun _ => ⟨_, _, rfl, rfl⟩
        · rw [show e = 32 from he.symm]
          first
            | kt_at_get
            | (k_here; walk_plain_pass; kt_k; kt_at_get)
          walk1
          walk1
          first
            | exact ⟨_, _, rfl, rfl⟩
            | exact fun _ => ⟨_, _, rfl, rfl⟩
        · rw [show e = 64 from he.symm]
          first
            | kt_at_get
            | (k_here; walk_plain_pass; kt_k; kt_at_get)
          walk1
          walk1
          first
            | exact ⟨_, _, rfl, rfl⟩
            | exact fun _ => ⟨_, _, rfl, rfl⟩
        · rw [show e = 128 from he.symm]
          first
            | kt_at_get
            | (k_here; walk_plain_pass; kt_k; kt_at_get)
          walk1
          walk1
          first
            | exact ⟨_, _, rfl, rfl⟩
            | exact fun _ => ⟨_, _, rfl, rfl⟩
        · rw [show e = 256 from he.symm]
          first
            | kt_at_get
            | (k_here; walk_plain_pass; kt_k; kt_at_get)
          walk1
          walk1
          first
            | exact ⟨_, _, rfl, rfl⟩
            | exact fun _ => ⟨_, _, rfl, rfl⟩
        · rw [show e = 512 from he.symm]
          first
            | kt_at_get
            | (k_here; walk_plain_pass; kt_k; kt_at_get)
          walk1
          walk1
          first
            | exact ⟨_, _, rfl, rfl⟩
            | exact fun _ => ⟨_, _, rfl, rfl⟩
        · rw [show e = 1024 from he.symm]
          first
            | kt_at_get
            | (k_here; walk_plain_pass; kt_k; kt_at_get)
          walk1
          walk1
          intro _
          exact ⟨_, _, congrArg (fun x => Value.str x _) hex10, rfl⟩
      intro t8 k8
      k_steps
      · (rename News _ _ _ _ => N5)
        (rename Fr _ _ _ _ => F5)
        (rename (¬ (left _ _ : Int) = 0) => hz)
        refine InvEndG.intro (nx := (_, W.listOf (hv.push ?v) (hn + 1)) :: news) F5 N5 ⟨?ag, ⟨_, by rfl⟩, _, _, rfl, ?js, by omega, by (rw [Array.size_push]; omega), .inr (fun e => hz (by rw [e]; rfl))⟩ ?of (fun x hx => ?m1) (fun x hx => ?m2)
        case m1 => exact List.mem_append_left own hx
        case m2 => exact List.mem_append_right (_ :: news) hx
        case of => exact hoff
        case ag => repeat (first | exact agree_base | refine Agree.put ?_ (by decide))
        case js =>
          rw [hg, List.map_append, Array.toList_push]
          exact StrsAre.append' hvs (.cons _ _ .nil)
      · unfold Stop
        (rename News _ _ _ _ => N5)
        (rename ((left _ _ : Int) = 0) => hz)
        refine join_listW (ys := (gone f 32).map nm) (News.isList N5 (List.mem_cons_self)) ?js2 (by decide) hG ?_
        case js2 =>
          rw [← hE i hi (Int.ofNat.inj hz), hg, List.map_append, Array.toList_push]
          exact StrsAre.append' hvs (.cons _ _ .nil)
        intro t9 k9
        rw [show Txt.join (Str.ofString ", ") ((gone f 32).map nm) = pf n z from by rw [hpf, if_neg hf0]]
        k_steps
        exact hret _ _ _ _ (by k_asm) (by (rename News _ _ _ _ => N6); exact fun p hp => N6 p (by simp [hp])) ⟨_, rfl, rfl⟩
  case done =>
    rintro m₁ nx h tk ⟨hm, ⟨tf, hmf⟩, hv, hn, rfl, hvs, hn1, hn2, h0⟩ F4 N4
    have hf0 : f = 0 := h0.resolve_right fun h => h hL
    subst hf0
    have hg0 : gone 0 32 = [] := by decide +kernel
    rw [hg0] at hvs
    have hv0 : hv.toList = [] := List.length_eq_zero_iff.mp hvs.len_eq
    obtain rfl : hv = #[] := by simpa using hv0
    rw [hL] at hmf
    rw [hm.mapF hmf] at F4
    k_steps
    unfold Stop
    (rename News _ _ _ _ => N5)
    refine join_listW (ys := [Str.ofString "0x0"]) (News.isList N5 (List.mem_cons_self)) (.cons _ _ .nil) (by decide) (by decide) ?jk
    intro t9 k9
    rw [show Txt.join (Str.ofString ", ") [Str.ofString "0x0"] = pf n z from by rw [hpf, if_pos rfl]; decide +kernel]
    k_steps
    exact hret _ _ _ _ (by k_asm) (by (rename News _ _ _ _ => N6); exact fun p hp => N6 p (by simp [hp])) ⟨_, rfl, rfl⟩
end Mine
end

section
open PySem PySem.W PyProof.Rows PySem.Spec PySem.Calls PySem.Builtin
namespace Mine
theorem start_P3 : True := by
  w_top off
  trivial
local macro_rules | `(tactic| k_room) => `(tactic| ktr_room)
theorem pretty_at {prog w mean mg mb} (k : Int) (z : Nat) (h1 : 0 ≤ k) (h2 : k < 0 + ((8 : Nat) : Int)) (hs : z < 9) (t : Tok) (news) : ConV prog w mean mg mb 64 [.int (k * ((2 ^ z : Nat) : Int)) t] news 1 20 (.str (pf k.toNat z)) := by
  obtain ⟨n, rfl⟩ := Int.eq_ofNat_of_zero_le h1
  have e : (n : Int) * ((2 ^ z : Nat) : Int) = ((n * 2 ^ z : Nat) : Int) := by push_cast; rfl
  rw [e]
  exact pretty_con n z (by omega) hs t news
local macro_rules | `(tactic| walk_at "call ref") => `(tactic| (k_here; first
  | ((with_reducible show wpAny _ _ (call (Value.ref 64) [_]) _ _ _); k_dflt (refine' Con.useV (pretty_at _ _ (by assumption) (by assumption) (by assumption) _ _) (by k_asm) (by k_asm) (by k_asm) (by k_asm) (by assumption) (by k_asm) (by first | exact rfl | assumption) (by ktr_room) (by ktr_units) ?_); intro t9 h9 tk9 F9 N9; (try dsimp only); (try k_fold))))
local macro_rules | `(tactic| walk_at "eval ListComp") => `(tactic| (k_here; k_dflt (refine LCg.ListComp_U (F₀ := by k_asm) (by with_unfolding_all rfl) (by decide) (by rfl) (by decide) (by rfl) ?_)))
local macro_rules | `(tactic| walk_at "CompSrc") => `(tactic| refine stop ?_)
local macro_rules | `(tactic| walk_at "binaryOp Pow int int") => `(tactic| (k_dflt (refine' pow_is ?p1 ?p2 ?p3 ?_; (case p1 => omega); (case p2 => omega); (case p3 => assumption))))
local macro_rules | `(tactic| walk_at "mine enterC") => `(tactic| (refine' code_defC ?k1 ?k2 ?k3 ?k4 ?k5 ?kA ?kF ?kK ?k6 ?k7 ?k8 ?k9 ?kB ?kD ?_ ?c2 ?c3 ?c4; (case kA => exact rfl); (case kF => exact rfl); (case kK => assumption); (case k1 => k_asm); (case k2 => k_asm); (case k3 => k_asm); (case k4 => k_asm); (case k5 => k_asm); (case k6 => k_is); (case k7 => k_is); (case k8 => ktr_room); (case k9 => exact BindsTo.of_eq rfl); (case kB => exact rfl); (case kD => decide +kernel); (case c2 => exact rfl); (case c3 => exact rfl); (case c4 => exact rfl); k_whole; intro g' L' h' tk' cells' FG' F' N' Y' B' X' T' l1; (try k_lt l1); k_cells Y'; (try simp only [List.cons_append, List.nil_append] at N'); (try dsimp only); (try k_lift B'); (try k_fold)))
theorem pf_list {ys : List Value} {z : Nat} (h : CarriedAll ys ((rangeKs 0 8).map fun k => PyData.str (pf k.toNat z))) : StrsAre ys ((List.range 8).map fun n => pf n z) := StrsAre.ofCarried h
set_option maxHeartbeats 1600000 in
theorem texts_con {prog w mean mg mb} (z : Nat) (hs : z < 9) (t : Tok) (news) : Con prog w mean mg mb 113 [.int (z : Int) t] news 2 40 (fun r news' => ∃ a ys, r = .ref a ∧ news' = (a, LCg.lst ys) :: news ∧ StrsAre ys ((List.range 8).map fun n => pf n z)) := by
  unfold Con
  refine rowSay ?_
  k_fill
  intro _
  intro dp un gd cn cs a ccd cl outer A₀ base h₀ L m s R B F X N C0 T hk hd hu hret
  have e0 : (2 : Int) ^ (z : Int).toNat = ((2 ^ z : Nat) : Int) := by simp
  k_dflt (walk_at "mine enterC")
  k_steps
  unfold Stop
  refine LCg.CompSrc.range (n := 8) (by rfl) (by k_asm) (by k_asm) (by assumption) (by decide) (by rfl) (by decide) ?_
  intro g'
  refine' kct_range (fun k => pf k.toNat z) (fun k' t' I' oI' C' oC' D' m' ys' h' tk' E' hk' hk2 hC' hx' F' N' off' ne' hMark' => ?_) ?_
  · k_steps
    exact LCg.CompEnd.intro (by k_asm) (by k_asm) _ (fun p hp => hp) off' trivial ⟨rfl, _, rfl⟩
  · k_steps
    (rename CarriedAll _ _ => hc)
    exact hret _ _ _ _ (by k_asm) (by (rename News _ _ _ _ => N6); exact fun p hp => N6 p (by rcases List.mem_cons.mp hp with h | h <;> simp [h])) ⟨_, _, rfl, rfl, pf_list hc⟩
end Mine
end

section
open PySem PySem.W PyProof.Rows PySem.Spec PySem.Calls PySem.Builtin
namespace Mine
section
variable {prog : Program} {w : World} {A : Around} {E : Value → Shared → Prop} {s : Shared} {h₀ : Heap} {env : Env} {target : Expr} {body orelse : List Stmt} {Q : Flow → Shared → Prop} {m₀ : Str → Option Value} {news : List (Addr × Obj)} {r : Addr} {a₀ b₀ : Int} {t₀ u₀ v₀ : Tok} {n : Nat}
/-- a for over a range with any target -/
theorem range_any (J : Nat → (Str → Option Value) → List (Addr × Obj) → Prop) (hh : A.handled = none)
    (hr : IsRange s.heap r a₀ b₀ 1 t₀ u₀ v₀) (hsmall : Builtin.Range.small a₀ b₀ 1 = true) (hsz : Builtin.Range.rangeSize a₀ b₀ 1 = (n : Int))
    (F : Fr h₀ env.locals s.heap m₀) (N : News h₀ env.locals s.heap news) (hj : J 0 m₀ news)
    (turn : ∀ i m₁ nx h tk own t, i < n → OwnOff own (nx.map (·.1)) → J i m₁ nx → Fr h₀ env.locals h m₁ → News h₀ env.locals h (nx ++ own) →
      wpAny (model prog w) A (assign target env (.int (a₀ + (i : Int)) t)) (fun _ s₂ => wpAny (model prog w) A (execs body env) (InvPostG h₀ env.locals (J (i + 1)) own { s with heap := h, toks := tk } Q) E s₂) E { s with heap := h, toks := tk })
    (done : ∀ m₁ nx h tk, J n m₁ nx → Fr h₀ env.locals h m₁ → News h₀ env.locals h nx → wpAny (model prog w) A (execs orelse env) Q E { s with heap := h, toks := tk })
    (ht : ∀ I v, letOwnedTupleGo target (.ref I) v = pure () := by intro _ _; rfl)
    (hE : PassesOwn (model prog w) A env E := by passes_own) :
    wpAny (model prog w) A (pyIter (.ref r)) (fun it s₂ => codeAny (model prog w) A (.forLoop target it body orelse env) (fun r s' => match r with | .ok f => Q f s' | .error e => cameBackBy (model prog w) A env E e s') s₂) E s := by
  refine wpAny_pyIter_range hr hsmall ?_
  have hnew := next_is_new F
  have hIL : s.heap.objs.size ≠ env.locals := fun e => absurd F.ns.lt (e ▸ Nat.lt_irrefl _)
  have W := Walks.range (prog := prog) (w := w) hh s.heap.objs.size a₀ 1 n
  have key : ∀ (j i : Nat) (m₁ : Str → Option Value) (nx : List (Addr × Obj)) (h : Heap) (tk : Nat), i + j = n → IsRangeIter h s.heap.objs.size (a₀ + (i : Int) * 1) ((n : Int) - (i : Int)) 1 → (∀ p ∈ nx, p.1 ≠ s.heap.objs.size) → J i m₁ nx → Fr h₀ env.locals h m₁ → News h₀ env.locals h nx →
      codeAny (model prog w) A (.forLoop target (.ref s.heap.objs.size) body orelse env) (fun r s' => match r with | .ok f => Q f s' | .error e => cameBackBy (model prog w) A env E e s') { s with heap := h, toks := tk } := by
    intro j
    have nxt : ∀ {m₁ : Str → Option Value} {nx : List (Addr × Obj)} {h h₁ : Heap}, (∀ p ∈ nx, p.1 ≠ s.heap.objs.size) → Fr h₀ env.locals h m₁ → News h₀ env.locals h nx → (∀ b o, b ∉ [s.heap.objs.size] → h.get? b = some o → h₁.get? b = some o) → Fr h₀ env.locals h₁ m₁ ∧ News h₀ env.locals h₁ nx := by
      intro m₁ nx h h₁ hne F₁ N₁ hk
      refine ⟨⟨F₁.ns.at' fun o e => hk _ o (fun hm => hIL (List.mem_singleton.mp hm).symm) e, fun b o e => hk b o (fun hm => ?_) (F₁.keep b o e), F₁.above⟩, fun p hp => ⟨hk _ _ (fun hm => hne p hp (List.mem_singleton.mp hm)) (N₁ p hp).1, (N₁ p hp).2⟩⟩
      rw [List.mem_singleton.mp hm, hnew] at e
      cases e
    induction j with
    | zero =>
      intro i m₁ nx h tk hi hst hne hJ F₁ N₁
      have e : i = n := by omega
      subst e
      refine forLoop_turn (ht := ht _) (W.done { s with heap := h, toks := tk } _ _ hst fun h₁ tk₁ hk₁ => ?_)
      obtain ⟨F₂, N₂⟩ := nxt hne F₁ N₁ hk₁
      exact wpAny_passesOwn hE (done m₁ nx h₁ tk₁ hJ F₂ N₂)
    | succ j ih =>
      intro i m₁ nx h tk hi hst hne hJ F₁ N₁
      refine forLoop_turn (ht := ht _) (W.item i { s with heap := h, toks := tk } _ _ (by omega) hst fun v h₁ tk₁ hv hst₁ hk₁ => ?_)
      obtain ⟨t, rfl⟩ := hv
      obtain ⟨F₂, N₂⟩ := nxt hne F₁ N₁ hk₁
      obtain ⟨O, hI₃, hO⟩ : ∃ O : Obj, h₁.get? s.heap.objs.size = some O ∧ ∀ h' : Heap, h'.get? s.heap.objs.size = some O → IsRangeIter h' s.heap.objs.size (a₀ + ((i + 1 : Nat) : Int) * 1) ((n : Int) - ((i + 1 : Nat) : Int)) 1 := ⟨_, hst₁, fun _ e => e⟩
      have hoff : OwnOff [(s.heap.objs.size, O)] (nx.map (·.1)) := by
        intro p hp b hb e
        obtain ⟨q, hq, rfl⟩ := List.mem_map.mp hb
        rw [List.mem_singleton.mp hp] at e
        exact hne q hq e.symm
      rw [Int.mul_one]
      refine wpAny_passesOwn hE (wpAny_mono (turn i m₁ nx h₁ tk₁ [(s.heap.objs.size, O)] t (by omega) hoff hJ F₂ (N₂.append fun p hp => ?_)) (fun _ s₃ hb => wpAny_passesOwn hE (wpAny_mono hb (fun f s₂ p => ?_) fun _ _ e => e)) fun _ _ e => e)
      · rw [List.mem_singleton.mp hp]
        exact ⟨hI₃, hIL, hnew⟩
      · have fin : InvEndG h₀ env.locals (J (i + 1)) [(s.heap.objs.size, O)] { s with heap := h₁, toks := tk₁ } s₂ → codeAny (model prog w) A (.forLoop target (.ref s.heap.objs.size) body orelse env) (fun r s' => match r with | .ok f => Q f s' | .error e => cameBackBy (model prog w) A env E e s') s₂ := by
          rintro ⟨h', tk', m', news', nx', rfl, F', N', hn, ho, ha, hm⟩
          refine ih (i + 1) m' nx' h' tk' (by omega) (hO _ (N' _ (ho _ (List.mem_singleton.mpr rfl))).1) (fun p hp e => ?_) hm F' fun p hp => N' p (hn p hp)
          exact ha _ (List.mem_singleton.mpr rfl) p.1 (List.mem_map.mpr ⟨p, hp, rfl⟩) e.symm
        cases f with
        | ret v => exact p
        | brk => exact p
        | next => exact fin p
        | cont => exact fin p
  refine key n 0 m₀ news _ _ (by omega) ?_ (fun p hp e => ?_) hj (F.push _) fun p hp => ⟨Heap.get?_push_of_some _ (N p hp).1, (N p hp).2⟩
  · show IsRangeIter _ _ _ _ _
    rw [hsz]
    simpa using Heap.get?_push_size _ rfl
  · exact absurd (Heap.lt_size (N p hp).1) (e ▸ Nat.lt_irrefl _)
end
end Mine
end

section
open PySem PySem.W PyProof.Rows PySem.Spec PySem.Calls PySem.Builtin
namespace Mine
noncomputable def bitsUp (n : Nat) : List Nat := (List.range 3).filter fun b => n.testBit b
noncomputable def jn (n z : Nat) : Str := if n = 0 then Str.ofString "0x0" else Txt.join (Str.ofString ", ") ((bitsUp n).map fun b => nm (z + b))
theorem nm_len (k : Nat) : (nm k).length ≤ 100 := by
  by_cases h : k < 11
  · have : ∀ k < 11, (nm k).length ≤ 100 := by decide +kernel
    exact this k h
  · have e : nm k = Str.ofString "" := by
      unfold nm
      rw [List.getD_eq_getElem?_getD, List.getElem?_eq_none (by simp; omega)]
      rfl
    rw [e]; decide +kernel
theorem nm_list : Txt.split (Str.ofString "OPTIMIZED NEWLOCALS VARARGS VARKEYWORDS NESTED GENERATOR NOFREE COROUTINE ITERABLE_COROUTINE ASYNC_GENERATOR 0x400") (Str.ofString " ") = (List.range 11).map nm := by decide +kernel
section
variable {prog : Program} {w : World} {A : Around} {E : Value → Shared → Prop} {s : Shared} {h₀ : Heap} {L : Addr} {m : PySem.Str → Option Value} {news : List (Addr × Obj)} {x y : PySem.Str} {t u : Tok} {Q : Value → Shared → Prop}
theorem split_to {ys : List PySem.Str} (e : Txt.split x y = ys) (F : Fr h₀ L s.heap m) (N : News h₀ L s.heap news) (hy : (y.length == 0) = false) (hsz : x.length + 2 ≤ sizeLine)
    (h : ∀ D vs h' k, StrsAre vs ys → Fr h₀ L h' m → News h₀ L h' ((D, listOf vs.toArray 0) :: news) → (∀ p ∈ news, p.1 < D) → Q (.ref D) { s with heap := h', toks := k }) :
    wpAny (model prog w) A (call (.builtin "str.split") [.str x t, .str y u]) Q E s := by
  refine KSpl.split1 F N hy (fun D l h' k e' hs F' N' l1 => ?_) hsz
  rw [e', e] at hs
  exact h D _ h' k hs F' N' l1
theorem item_nm {value slice : PySem.Expr} {l : Addr} {vs : List Value} {k : Nat} {i : Int} (N : News h₀ L s.heap news) (hm : (l, listOf vs.toArray k) ∈ news) (hw : StrsAre vs ((List.range 11).map nm)) (h0 : 0 ≤ i) (h1 : i < 11) (h : ∀ t', Q (.str (nm i.toNat) t') s)
    (hs : subscripted slice false (.ref l) (.int i u) = operate [.ref l, .int i u] (getItem (.ref l) (.int i u)) := by with_unfolding_all rfl) :
    wpAny (model prog w) A (subscriptTail value slice (.ref l) (.int i u)) Q E s := by
  refine KTb.item_list (News.isList N hm) hw h0 (by simpa using h1) (by omega) (fun t' ht => ?_) hs
  rw [List.getD_eq_getElem?_getD, List.getElem?_map, List.getElem?_range (by simpa using ht)]
  exact h t'
end
end Mine
end

section
open PySem PySem.W PyProof.Rows PySem.Spec PySem.Calls PySem.Builtin
namespace Mine
theorem start_P4 : True := by
  w_top off
  trivial
local macro_rules | `(tactic| k_all) => `(tactic| first | assumption | (refine' allNe_of_lt ?h9 ?e9; (case h9 => assumption); (case e9 => omega)))
local macro_rules | `(tactic| k_room) => `(tactic| ktr_room)
local macro_rules | `(tactic| walk_at "mine enterC") => `(tactic| (refine' code_defC ?k1 ?k2 ?k3 ?k4 ?k5 ?kA ?kF ?kK ?k6 ?k7 ?k8 ?k9 ?kB ?kD ?_ ?c2 ?c3 ?c4; (case kA => exact rfl); (case kF => exact rfl); (case kK => assumption); (case k1 => k_asm); (case k2 => k_asm); (case k3 => k_asm); (case k4 => k_asm); (case k5 => k_asm); (case k6 => k_is); (case k7 => k_is); (case k8 => ktr_room); (case k9 => exact BindsTo.of_eq rfl); (case kB => exact rfl); (case kD => decide +kernel); (case c2 => exact rfl); (case c3 => exact rfl); (case c4 => exact rfl); k_whole; intro g' L' h' tk' cells' FG' F' N' Y' B' X' T' l1; (try k_lt l1); k_cells Y'; (try simp only [List.cons_append, List.nil_append] at N'); (try dsimp only); (try k_lift B'); (try k_fold)))
local macro_rules | `(tactic| walk_at "exec For") => `(tactic| refine stop ?_)
local macro_rules | `(tactic| walk_at "exec For Name Call cons nil") => `(tactic| refine stop ?_)
local macro_rules | `(tactic| walk_at "pyIter ref") => `(tactic| refine stop ?_)
local macro_rules | `(tactic| walk_at "call type:range") => `(tactic| ((rename Fr _ _ _ _ => F'); (rename News _ _ _ _ => N'); (with_unfolding_all (first | refine range2_rows F' N' ?_ | refine range1_rows F' N' ?_)); intro _ _ _ _ _ _ _ _ _))
local macro_rules | `(tactic| walk_at "call builtin:str.split") => `(tactic| ((with_reducible rename Fr _ _ _ _ => F'); (with_reducible rename News _ _ _ _ => N'); k_dflt (refine' split_to nm_list F' N' ?hy ?hsz ?_; (case hy => decide +kernel); (case hsz => decide +kernel); intro D' vs' _ _ w' F' N' l1; (try k_lt l1))))
local macro_rules | `(tactic| walk_at "subscriptTail") => `(tactic| (k_here; k_dflt (refine' item_nm ?N ?m ?w ?h0 ?h1 ?_; (case N => k_asm); (case m => k_mem); (case w => assumption); (case h0 => omega); (case h1 => omega); intro _)))
local macro_rules | `(tactic| walk_at "call builtin:str.join") => `(tactic| refine stop ?_)
section
variable {prog : Program} {w : World} {A : Around} {h₀ : Heap} {L : Addr} {m : Str → Option Value} {env : Env} {ct elt : Expr} {x : Str} {scope : Scope} {cl : List (Str × Addr)} {s : Shared} {S : List (Addr × Obj) → Prop} {Fin : List Value → List (Addr × Obj) → Prop} {news : List (Addr × Obj)}
/-- a comprehension of texts over a range, with a test -/
theorem range_filter {a : Int} {n : Nat} (f : Nat → Bool) (g : Nat → Str)
    (turn : ∀ k t I oI C oC D m₂ ws h tk (E' : Value → Shared → Prop), k < n → LCg.NsObj oC m₂ → m₂ x = some (.int (a + (k : Int)) t) → Fr h₀ L h m → News h₀ L h ((I, oI) :: (C, oC) :: (D, LCg.lst ws) :: news) → LCg.Off3 I C D news → ((@Ne Nat I C) ∧ (@Ne Nat I D) ∧ (@Ne Nat C D)) →
      wpAny (model prog w) A (isTrue ct (compEnvC scope cl C env) (eval ct (compEnvC scope cl C env))) (fun ok s' => if ok = true then
        wpAny (model prog w) A (eval elt (compEnvC scope cl C env)) (LCg.CompEnd h₀ L m { s with heap := h, toks := tk } I oI C oC D (LCg.lst ws) S (fun y' news' => news' = news ∧ f k = true ∧ ∃ t', y' = .str (g k) t')) E' s'
        else LCg.CompEnd h₀ L m { s with heap := h, toks := tk } I oI C oC D (LCg.lst ws) S (fun _ news' => news' = news ∧ f k = false) Value.none s') E' { s with heap := h, toks := tk })
    (fin : ∀ ws, StrsAre ws (((List.range n).filter f).map g) → Fin ws news) : LCt.CompRestT prog w A h₀ L m env ct elt x scope cl s S (fun i v => ∃ t, v = .int (a + (i : Int)) t) Fin n 0 [] news := by
  have key : ∀ (j i : Nat) (ws : List Value), i + j = n → StrsAre ws (((List.range i).filter f).map g) → LCt.CompRestT prog w A h₀ L m env ct elt x scope cl s S (fun i v => ∃ t, v = .int (a + (i : Int)) t) Fin j i ws news := by
    intro j
    induction j with
    | zero =>
      intro i ws hi hy
      have e : i = n := by omega
      subst e
      exact LCt.CompRestT.zero (fin ws hy)
    | succ j ih =>
      intro i ws hi hy
      refine LCt.CompRestT.succ ?_
      intro v I oI C oC D m₂ h tk E' hv hC hx F N off ne
      obtain ⟨t, rfl⟩ := hv
      refine wpAny_mono (turn i t I oI C oC D m₂ ws h tk E' (by omega) hC hx F N off ne) (fun ok s' hq => ?_) fun _ _ e => e
      by_cases hok : ok = true
      · rw [if_pos hok] at hq ⊢
        refine wpAny_mono hq (fun y' s₂ hq => ?_) fun _ _ e => e
        obtain ⟨h', tk', nw, e1, F', N', off', hS, hn, hf, t', hy'⟩ := hq
        rw [hn] at N' off' hS
        refine ⟨h', tk', news, e1, F', N', off', hS, ?_⟩
        rw [hy']
        refine ih (i + 1) _ (by omega) ?_
        rw [List.range_succ, List.filter_append, List.map_append]
        simp only [List.filter_cons, hf, List.filter_nil, if_true]
        exact StrsAre.append' hy (.cons _ _ .nil)
      · rw [if_neg hok] at hq ⊢
        obtain ⟨h', tk', nw, e1, F', N', off', hS, hn, hf⟩ := hq
        rw [hn] at N' off' hS
        refine ⟨h', tk', news, e1, F', N', off', hS, ?_⟩
        refine ih (i + 1) _ (by omega) ?_
        rw [List.range_succ, List.filter_append, List.map_append]
        simp only [List.filter_cons, hf, List.filter_nil]
        simpa using hy
  exact key n 0 [] (by omega) .nil
end
theorem bit_test : ∀ i < 7, ∀ k < 3, (i + 1).testBit k = decide (((1 + ((i : Nat) : Int)).fdiv ((2 ^ k : Nat) : Int)).fmod 2 = 1) := by decide +kernel
theorem bit_yes {b : Bool} {p : Prop} [Decidable p] (h : b = decide p) (hp : p) : b = true := h.trans (decide_eq_true hp)
theorem bit_no {b : Bool} {p : Prop} [Decidable p] (h : b = decide p) (hp : ¬ p) : b = false := h.trans (decide_eq_false hp)
theorem lt3 : ∀ k < 3, k = 0 ∨ k = 1 ∨ k = 2 := by decide +kernel
theorem bits_room : ∀ i < 8, ∀ z < 9, (((bitsUp i).map fun b => nm (z + b)).map (·.length)).sum + ((bitsUp i).map fun b => nm (z + b)).length ≤ 1048576 := by decide +kernel
theorem jn_is (i z : Nat) : Txt.join (Str.ofString ", ") ((bitsUp (i + 1)).map fun b => nm (z + b)) = jn (i + 1) z := by
  unfold jn
  rw [if_neg (Nat.succ_ne_zero i)]
local macro_rules | `(tactic| walk_at "CompSrcT") => `(tactic| refine stop ?_)
local macro_rules | `(tactic| walk_at "binaryOp Pow int int") => `(tactic| (k_dflt (refine' pow_is ?p1 ?p2 ?p3 ?_; (case p1 => omega); (case p2 => omega); (case p3 => assumption))))
theorem joined_end {h₀ h' : Heap} {L : Addr} {m' : Str → Option Value} {J : (Str → Option Value) → List (Addr × Obj) → Prop} {x0 x1 x2 x3 x4 x5 : Addr × Obj} {news own : List (Addr × Obj)} {s₁ : Shared} {tk : Nat} (F : Fr h₀ L h' m') (N : News h₀ L h' (x0 :: x1 :: x2 :: x3 :: x4 :: x5 :: (news ++ own)))
    (hoff : OwnOff own ((x1 :: x2 :: x3 :: x4 :: x5 :: news).map (·.1))) (hj : J m' (x1 :: x2 :: x3 :: x4 :: x5 :: news)) : InvEndG h₀ L J own s₁ { s₁ with heap := h', toks := tk } :=
  InvEndG.intro F N hj hoff (fun x hx => List.mem_cons_of_mem _ (List.mem_append_left own hx)) (fun x hx => List.mem_cons_of_mem _ (List.mem_append_right (x1 :: x2 :: x3 :: x4 :: x5 :: news) hx))
set_option maxHeartbeats 1600000 in
theorem joined_con {prog w mean mg mb} (z : Nat) (hs : z < 9) (t : Tok) (news) : Con prog w mean mg mb 118 [.int (z : Int) t] news 2 40 (fun r news' => ∃ a vs n, r = .ref a ∧ news' = (a, W.listOf vs n) :: news ∧ StrsAre vs.toList ((List.range 8).map fun n => jn n z)) := by
  unfold Con
  refine rowSay ?_
  k_fill
  intro _
  intro dp un gd cn cs a ccd cl outer A₀ base h₀ L m s R B F X N C0 T hk hd hu hret
  k_dflt (walk_at "mine enterC")
  (rename (∀ p ∈ news, _) => hL)
  have n1 := fun (p : Addr × Obj) hp => Nat.ne_of_lt (Nat.lt_of_lt_of_le (hL p hp) (Nat.le_add_right _ 1))
  have n2 := fun (p : Addr × Obj) hp => Nat.ne_of_lt (Nat.lt_of_lt_of_le (hL p hp) (Nat.le_add_right _ (1 + 1)))
  have n3 := fun (p : Addr × Obj) hp => Nat.ne_of_lt (Nat.lt_of_lt_of_le (hL p hp) (Nat.le_add_right _ (1 + 1 + 1)))
  k_steps
  unfold Stop
  refine wpAny_For ?_
  k_steps
  unfold Stop
  (rename News _ _ _ _ => N3)
  (rename Fr _ _ _ _ => F3)
  (rename IsRange _ _ _ _ _ _ _ _ => r3)
  (rename (_ ∧ _ ∧ _ ∧ _ ∧ _) => l9)
  refine range_any (n := 7) (fun i m' nx => m' = _ ∧ ∃ hv hn oN cv, nx = (_, W.listOf hv hn) :: _ :: (_, oN) :: _ :: _ :: news ∧ oN.data = .cell cv ∧ StrsAre hv.toList ((List.range (i + 1)).map fun n => jn n z) ∧ hv.size ≤ i + 1) rfl r3 (by decide) (by decide) F3 N3 ⟨rfl, _, _, _, _, rfl, by assumption, .cons _ _ .nil, Nat.le_refl _⟩ ?turn ?done
  case turn =>
    rintro i m₁ nx h tk own t hi hoff ⟨rfl, hv, hn, oN, cv, rfl, hcv, hvs, hsz⟩ F4 N4
    refine gen_post2 fun K1 hK1 => ?_
    have q1 : ∀ x ∈ news ++ own, x.1 ≠ _ := fun x hx => (List.mem_append.mp hx).elim (fun h => Nat.ne_of_lt (allLt_all l9.2.2.2.2 x h)) (fun h => hoff x h _ List.mem_cons_self)
    have q2 : ∀ x ∈ news ++ own, x.1 ≠ _ := fun x hx => (List.mem_append.mp hx).elim (fun h => n3 x h) (fun h => hoff x h _ (List.mem_cons_of_mem _ (List.mem_cons_of_mem _ List.mem_cons_self)))
    have N4' : News _ _ h ((_, W.listOf hv hn) :: _ :: (_, oN) :: _ :: _ :: (news ++ own)) := N4
    clear N4
    k_steps
    unfold Stop
    refine LCt.CompSrcT.range (n := 3) (by rfl) (by k_asm) (by k_asm) (by assumption) (by decide) (by rfl) (by decide) ?_
    intro g'
    refine range_filter (fun b => (i + 1).testBit b) (fun b => nm (z + b)) ?cturn ?cfin
    case cturn =>
      intro k t I oI C oC D m₂ ws h tk E' hk3 hC hx F' N' off' ne'
      have hnm : ((z : Int) + (0 + (k : Int))).toNat = z + k := by omega
      have hk' := lt3 k hk3
      rcases hk' with rfl | rfl | rfl
      · have e0 : (2 : Int) ^ ((0 : Int) + ((0 : Nat) : Int)).toNat = 1 := rfl
        have hbt : (i + 1).testBit 0 = decide (((1 + ((i : Nat) : Int)).fdiv 1).fmod 2 = 1) := bit_test i hi 0 hk3
        k_steps
        all_goals first
          | exact LCg.CompEnd.intro (by k_asm) (by k_asm) _ (fun p hp => hp) off' trivial ⟨rfl, bit_yes hbt (by assumption), _, congrArg (fun j => Value.str (nm j) _) hnm⟩
          | exact LCg.CompEnd.intro (by k_asm) (by k_asm) _ (fun p hp => hp) off' trivial ⟨rfl, bit_no hbt (by assumption)⟩
      · have e0 : (2 : Int) ^ ((0 : Int) + ((1 : Nat) : Int)).toNat = 2 := rfl
        have hbt : (i + 1).testBit 1 = decide (((1 + ((i : Nat) : Int)).fdiv 2).fmod 2 = 1) := bit_test i hi 1 hk3
        k_steps
        all_goals first
          | exact LCg.CompEnd.intro (by k_asm) (by k_asm) _ (fun p hp => hp) off' trivial ⟨rfl, bit_yes hbt (by assumption), _, congrArg (fun j => Value.str (nm j) _) hnm⟩
          | exact LCg.CompEnd.intro (by k_asm) (by k_asm) _ (fun p hp => hp) off' trivial ⟨rfl, bit_no hbt (by assumption)⟩
      · have e0 : (2 : Int) ^ ((0 : Int) + ((2 : Nat) : Int)).toNat = 4 := rfl
        have hbt : (i + 1).testBit 2 = decide (((1 + ((i : Nat) : Int)).fdiv 4).fmod 2 = 1) := bit_test i hi 2 hk3
        k_steps
        all_goals first
          | exact LCg.CompEnd.intro (by k_asm) (by k_asm) _ (fun p hp => hp) off' trivial ⟨rfl, bit_yes hbt (by assumption), _, congrArg (fun j => Value.str (nm j) _) hnm⟩
          | exact LCg.CompEnd.intro (by k_asm) (by k_asm) _ (fun p hp => hp) off' trivial ⟨rfl, bit_no hbt (by assumption)⟩
    case cfin =>
      intro ws hws
      k_steps
      unfold Stop
      (rename News _ _ _ _ => N5)
      refine join_listW (ys := (bitsUp (i + 1)).map fun b => nm (z + b)) (News.isList N5 List.mem_cons_self) hws (by decide) (bits_room (i + 1) (by omega) z hs) ?_
      intro t9 k9
      rw [jn_is]
      k_steps
      (rename News _ _ _ _ => N6)
      (rename Fr _ _ _ _ => F6)
      refine hK1 _ ?_
      refine joined_end F6 N6 hoff ⟨rfl, _, _, _, _, rfl, by assumption, ?js, ?sz⟩
      case js =>
        rw [Array.toList_push, List.range_succ, List.map_append]
        exact StrsAre.append' hvs (.cons _ _ .nil)
      case sz => rw [Array.size_push]; omega
  case done =>
    rintro m₁ nx h tk ⟨rfl, hv, hn, oN, cv, rfl, hcv, hvs, hsz⟩ F4 N4
    k_steps
    (rename News _ _ _ _ => N6)
    refine hret _ _ _ _ (by k_asm) ?nn ⟨_, hv, hn, rfl, rfl, hvs⟩
    exact fun p hp => N6 p (by simp only [List.mem_cons] at hp ⊢; rcases hp with h | h <;> simp [h])
end Mine
end

section
open PySem PySem.W PyProof.Rows PySem.Spec PySem.Calls PySem.Builtin
namespace Mine
noncomputable def partsOf (n z : Nat) : List Str := if n = 0 then [Str.ofString "0x0"] else (bitsUp n).map fun b => nm (z + b)
noncomputable def rowOf (n z : Nat) : List Str := (bitsUp n).map fun b => nm (z + b)
theorem pf_jn : ∀ n < 8, ∀ z < 9, pf n z = jn n z := by decide +kernel
theorem pf_split : ∀ n < 8, ∀ z < 9, Txt.split (pf n z) (Str.ofString ", ") = partsOf n z := by decide +kernel
theorem parts_row : ∀ n < 8, ∀ z < 9, (partsOf n z).filter (fun x => x != Str.ofString "0x0") = rowOf n z := by decide +kernel
theorem pf_len : ∀ n < 8, ∀ z < 9, (pf n z).length ≤ 100 := by decide +kernel
/-- how many of the splits of m are contained -/
noncomputable def inRow (i m z : Nat) : Bool := (rowOf i z).filter (fun x => !(rowOf (m - i) z).contains x) == []
noncomputable def withinOf (m z k : Nat) : Nat := ((List.range k).filter fun i => inRow i m z).length
theorem within_S : ∀ m < 8, ∀ z < 9, withinOf m z (m / 2 + 1) = ([1, 1, 2, 1, 3, 2, 3, 1] : List Nat).getD m 0 := by decide +kernel
end Mine
end

section
open PySem PySem.W PyProof.Rows PySem.Spec PySem.Calls PySem.Builtin
namespace Mine
section
variable {prog : Program} {w : World} {A : Around} {h₀ : Heap} {L : Addr} {m : Str → Option Value} {env : Env} {ct elt : Expr} {x : Str} {scope : Scope} {cl : List (Str × Addr)} {s : Shared} {S : List (Addr × Obj) → Prop} {Fin : List Value → List (Addr × Obj) → Prop} {news : List (Addr × Obj)}
/-- a comprehension over a list of texts, with a test -/
theorem texts_filter {vs : List Value} {ys : List Str} (hw : StrsAre vs ys) (f : Str → Bool)
    (turn : ∀ y t I oI C oC D m₂ ws h tk (E' : Value → Shared → Prop), y ∈ ys → LCg.NsObj oC m₂ → m₂ x = some (.str y t) → Fr h₀ L h m → News h₀ L h ((I, oI) :: (C, oC) :: (D, LCg.lst ws) :: news) → LCg.Off3 I C D news → ((@Ne Nat I C) ∧ (@Ne Nat I D) ∧ (@Ne Nat C D)) →
      wpAny (model prog w) A (isTrue ct (compEnvC scope cl C env) (eval ct (compEnvC scope cl C env))) (fun ok s' => if ok = true then
        wpAny (model prog w) A (eval elt (compEnvC scope cl C env)) (LCg.CompEnd h₀ L m { s with heap := h, toks := tk } I oI C oC D (LCg.lst ws) S (fun y' news' => news' = news ∧ f y = true ∧ ∃ t', y' = .str y t')) E' s'
        else LCg.CompEnd h₀ L m { s with heap := h, toks := tk } I oI C oC D (LCg.lst ws) S (fun _ news' => news' = news ∧ f y = false) Value.none s') E' { s with heap := h, toks := tk })
    (fin : ∀ ws, StrsAre ws (ys.filter f) → Fin ws news) : LCt.CompRestT prog w A h₀ L m env ct elt x scope cl s S (fun i v => vs.toArray[i]? = some v) Fin vs.toArray.size 0 [] news := by
  have hlen : vs.toArray.size = ys.length := by rw [List.size_toArray]; exact hw.len_eq
  have key : ∀ (j i : Nat) (ws : List Value), i + j = ys.length → StrsAre ws ((ys.take i).filter f) → LCt.CompRestT prog w A h₀ L m env ct elt x scope cl s S (fun i v => vs.toArray[i]? = some v) Fin j i ws news := by
    intro j
    induction j with
    | zero =>
      intro i ws hi hy
      have e : i = ys.length := by omega
      subst e
      rw [List.take_length] at hy
      exact LCt.CompRestT.zero (fin ws hy)
    | succ j ih =>
      intro i ws hi hy
      refine LCt.CompRestT.succ ?_
      intro v I oI C oC D m₂ h tk E' hv hC hx F N off ne
      have hlt : i < ys.length := by omega
      have hv2 : vs[i]? = some v := by simpa using hv
      obtain ⟨y, t, rfl, hy2⟩ := StrsAre.item hw i v hv2
      have e : ys.take (i + 1) = ys.take i ++ [y] := by rw [List.take_add_one, hy2]; rfl
      refine wpAny_mono (turn y t I oI C oC D m₂ ws h tk E' (List.mem_of_getElem? hy2) hC hx F N off ne) (fun ok s' hq => ?_) fun _ _ e => e
      by_cases hok : ok = true
      · rw [if_pos hok] at hq ⊢
        refine wpAny_mono hq (fun y' s₂ hq => ?_) fun _ _ e => e
        obtain ⟨h', tk', nw, e1, F', N', off', hS, hn, hf, t', hy'⟩ := hq
        rw [hn] at N' off' hS
        refine ⟨h', tk', news, e1, F', N', off', hS, ?_⟩
        rw [hy']
        refine ih (i + 1) _ (by omega) ?_
        rw [e, List.filter_append]
        simp only [List.filter_cons, hf, List.filter_nil, if_true]
        exact StrsAre.append' hy (.cons _ _ .nil)
      · rw [if_neg hok] at hq ⊢
        obtain ⟨h', tk', nw, e1, F', N', off', hS, hn, hf⟩ := hq
        rw [hn] at N' off' hS
        refine ⟨h', tk', news, e1, F', N', off', hS, ?_⟩
        refine ih (i + 1) _ (by omega) ?_
        rw [e, List.filter_append]
        simp only [List.filter_cons, hf, List.filter_nil]
        simpa using hy
  rw [hlen]
  exact key ys.length 0 [] (by omega) (by simp only [List.take_zero, List.filter_nil]; exact .nil)
end
end Mine
end

section
open PySem PySem.W PyProof.Rows PySem.Spec PySem.Calls PySem.Builtin
namespace Mine
theorem start_C2 : True := by
  w_top off
  trivial
local macro_rules | `(tactic| k_all) => `(tactic| first | assumption | (refine' allNe_of_lt ?h9 ?e9; (case h9 => assumption); (case e9 => omega)))
local macro_rules | `(tactic| k_room) => `(tactic| ktr_room)
local macro_rules | `(tactic| walk_at "exec For") => `(tactic| refine stop ?_)
local macro_rules | `(tactic| walk_at "exec For Name Name cons nil") => `(tactic| refine stop ?_)
local macro_rules | `(tactic| walk_at "exec For Name Call cons nil") => `(tactic| refine stop ?_)
local macro_rules | `(tactic| walk_at "pyIter ref") => `(tactic| refine stop ?_)
local macro_rules | `(tactic| walk_at "CompSrcT") => `(tactic| refine stop ?_)
local macro_rules | `(tactic| walk_at "call type:range") => `(tactic| ((rename Fr _ _ _ _ => F'); (rename News _ _ _ _ => N'); (with_unfolding_all (first | refine range2_rows F' N' ?_ | refine range1_rows F' N' ?_)); intro _ _ _ _ _ _ _ _ _))
local macro_rules | `(tactic| walk_at "mine enterC") => `(tactic| (refine' code_defC ?k1 ?k2 ?k3 ?k4 ?k5 ?kA ?kF ?kK ?k6 ?k7 ?k8 ?k9 ?kB ?kD ?_ ?c2 ?c3 ?c4; (case kA => exact rfl); (case kF => exact rfl); (case kK => assumption); (case k1 => k_asm); (case k2 => k_asm); (case k3 => k_asm); (case k4 => k_asm); (case k5 => k_asm); (case k6 => k_is); (case k7 => k_is); (case k8 => ktr_room); (case k9 => exact BindsTo.of_eq rfl); (case kB => exact rfl); (case kD => decide +kernel); (case c2 => exact rfl); (case c3 => exact rfl); (case c4 => exact rfl); k_whole; intro g' L' h' tk' cells' FG' F' N' Y' B' X' T' l1; (try k_lt l1); k_cells Y'; (try simp only [List.cons_append, List.nil_append] at N'); (try dsimp only); (try k_lift B'); (try k_fold)))
noncomputable def RowsAre (tl : List (Addr × Obj)) (rvs : List Value) (z : Nat) : Prop := ∀ (k : Nat) (v : Value), rvs[k]? = some v → ∃ a ws n, v = .ref a ∧ (a, W.listOf ws.toArray n) ∈ tl ∧ StrsAre ws (rowOf k z)
theorem RowsAre.push {tl : List (Addr × Obj)} {rvs : List Value} {z : Nat} {D : Addr} {ws : List Value} (h : RowsAre tl rvs z) (hw : StrsAre ws (rowOf rvs.length z)) : RowsAre ((D, LCg.lst ws) :: tl) (rvs ++ [.ref D]) z := by
  intro k v hv
  by_cases hk : k < rvs.length
  · rw [List.getElem?_append_left hk] at hv
    obtain ⟨a, ws', n, e, hm, hs⟩ := h k v hv
    exact ⟨a, ws', n, e, List.mem_cons_of_mem _ hm, hs⟩
  · have hk2 : k = rvs.length := by
      have := (List.getElem?_eq_some_iff.mp hv).1
      simp at this
      omega
    subst hk2
    simp at hv
    subst hv
    exact ⟨D, ws, _, rfl, List.mem_cons_self, hw⟩
theorem parts_len : ∀ n < 8, ∀ z < 9, (partsOf n z).length ≤ 3 := by decide +kernel
noncomputable def RowsSt (z : Nat) (lr c1 c2 c3 : Addr) (o1 o2 o3 : Obj) (t : Addr × Obj) (news : List (Addr × Obj)) (i : Nat) (nx : List (Addr × Obj)) : Prop :=
  ∃ rv rn tl, nx = (lr, W.listOf rv rn) :: (c1, o1) :: (c2, o2) :: (c3, o3) :: t :: (tl ++ news) ∧ RowsAre tl rv.toList z ∧ rv.size = i ∧ ∀ x ∈ tl, x.1 ≠ lr ∧ x.1 ≠ c1 ∧ x.1 ≠ c2 ∧ x.1 ≠ c3
theorem rows_open {h₀ h : Heap} {L : Addr} {x1 x2 x3 x4 x5 : Addr × Obj} {tl news own : List (Addr × Obj)} (N : News h₀ L h ((x1 :: x2 :: x3 :: x4 :: x5 :: (tl ++ news)) ++ own)) : News h₀ L h (x1 :: x2 :: x3 :: x4 :: x5 :: (tl ++ (news ++ own))) := fun p hp => N p (by
  simp only [List.cons_append, List.mem_cons, List.mem_append] at hp ⊢
  rcases hp with h | h | h | h | h | h | h | h <;> simp [h])
theorem Off1_mem {D : Addr} : ∀ {l : List (Addr × Obj)}, LCg.Off1 D l → ∀ p ∈ l, p.1 ≠ D
  | [], _, _, h => nomatch h
  | _ :: _, x, p, h => (List.mem_cons.mp h).elim (fun e => e ▸ x.1) (fun h => Off1_mem x.2 p h)
theorem take_head {h₀ h : Heap} {L a : Addr} {o : Obj} {r : List (Addr × Obj)} {G : Prop} (_N : News h₀ L h ((a, o) :: r)) (k : ∀ lr, lr = a → G) : G := k a rfl
theorem rows_end {h₀ h' : Heap} {L : Addr} {m' : Str → Option Value} {J : (Str → Option Value) → List (Addr × Obj) → Prop} {l' D2 : Addr} {o0 o2 oD : Obj} {x1 c1 c2 c3 t : Addr × Obj} {tl news own : List (Addr × Obj)} {s₁ : Shared} {tk : Nat} (F : Fr h₀ L h' m')
    (N : News h₀ L h' ((D2, oD) :: x1 :: (l', o2) :: c1 :: c2 :: c3 :: t :: (tl ++ (news ++ own)))) (hoff : OwnOff own (((l', o0) :: c1 :: c2 :: c3 :: t :: (tl ++ news)).map (·.1))) (hown : ∀ y ∈ own, y.1 ≠ D2)
    (hj : J m' ((l', o2) :: c1 :: c2 :: c3 :: t :: (((D2, oD) :: tl) ++ news))) : InvEndG h₀ L J own s₁ { s₁ with heap := h', toks := tk } := by
  refine InvEndG.intro F N hj ?_ (fun x hx => ?_) (fun x hx => ?_)
  · intro y hy b hb
    obtain ⟨x, hx, rfl⟩ := List.mem_map.mp hb
    simp only [List.cons_append, List.mem_cons, List.mem_append] at hx
    rcases hx with h | h | h | h | h | h | h | h
    · rw [h]; exact hoff y hy _ (by simp)
    · rw [h]; exact hoff y hy _ (by simp)
    · rw [h]; exact hoff y hy _ (by simp)
    · rw [h]; exact hoff y hy _ (by simp)
    · rw [h]; exact hoff y hy _ (by simp)
    · rw [h]; exact hown y hy
    · exact hoff y hy _ (List.mem_map.mpr ⟨x, by simp [h], rfl⟩)
    · exact hoff y hy _ (List.mem_map.mpr ⟨x, by simp [h], rfl⟩)
  · simp only [List.cons_append, List.mem_cons, List.mem_append] at hx ⊢
    rcases hx with h | h | h | h | h | h | h | h <;> simp [h]
  · simp only [List.mem_cons, List.mem_append]
    simp [hx]
local macro_rules | `(tactic| walk_at "call builtin:str.split") => `(tactic| ((with_reducible rename Fr _ _ _ _ => F'); (with_reducible rename News _ _ _ _ => N'); k_dflt (refine' split_to ?hse F' N' ?hy ?hsz ?_; (case hse => assumption); (case hy => decide +kernel); (case hsz => (refine Nat.le_trans (Nat.add_le_add_right ?_ 2) (show 102 ≤ sizeLine by decide); assumption)); intro D' vs' _ _ w' F' N' l1; (try k_lt l1))))
theorem RowsAre.mono {tl tl' : List (Addr × Obj)} {rvs : List Value} {z : Nat} (h : RowsAre tl rvs z) (hs : ∀ x ∈ tl, x ∈ tl') : RowsAre tl' rvs z := fun k v hv => by
  obtain ⟨a, ws, n, e, hm, h⟩ := h k v hv
  exact ⟨a, ws, n, e, hs _ hm, h⟩
theorem RowsAre.row {R : List (Addr × Obj)} {rv : Array Value} {z i : Nat} (h : RowsAre R rv.toList z) (hi : i < rv.size) : ∃ a ws n, rv[i]? = some (.ref a) ∧ (a, W.listOf ws.toArray n) ∈ R ∧ StrsAre ws (rowOf i z) := by
  obtain ⟨a, ws, n, e, hm, hs⟩ := h i rv[i] (by simp [hi])
  exact ⟨a, ws, n, by rw [Array.getElem?_eq_getElem hi, e], hm, hs⟩
theorem row_len : ∀ n < 8, ∀ z < 9, (rowOf n z).length ≤ 3 := by decide +kernel
noncomputable abbrev S8 : List Int := [0, 1, 1, 2, 1, 3, 2, 3, 1]
theorem S8_take : ∀ k < 8, S8.take (k + 1 + 1) = S8.take (k + 1) ++ [((([1, 1, 2, 1, 3, 2, 3, 1] : List Nat).getD k 0 : Nat) : Int)] := by decide +kernel
theorem ints_S8 {l : List Value} {t : Tok} {n : Nat} (k : Nat) (hk : k < 8) (hn : n = ([1, 1, 2, 1, 3, 2, 3, 1] : List Nat).getD k 0) (h : IntsAre l (S8.take (k + 1))) : IntsAre (l ++ [.int (n : Int) t]) (S8.take (k + 1 + 1)) := by
  rw [S8_take k hk, hn]
  exact IntsAre.append h (.cons _ _ .nil)
theorem hold_one {m : Str → Option Value} {x : Str} {v : Value} (h : m x = some v) : m = fun z => if z = x then some v else m z := by
  funext z
  by_cases hz : z = x
  · rw [if_pos hz, hz, h]
  · rw [if_neg hz]
theorem not_yes {b : Bool} (h : b = true) : (!b) = false := by rw [h]; rfl
theorem not_no {b : Bool} (h : ¬ b = true) : (!b) = true := by
  cases b
  · rfl
  · exact absurd rfl h
theorem any_has (l : List Str) (x : Str) : l.any (· == x) = l.contains x := by
  induction l with
  | nil => rfl
  | cons y l ih => rw [List.any_cons, List.contains_cons, ih, BEq.comm]
theorem inRow_eq (i m z : Nat) : inRow i m z = decide ((((rowOf i z).filter fun x => !((rowOf (m - i) z).any (· == x))).map Dat.str) = []) := by
  have e : (fun x => !((rowOf (m - i) z).any (· == x))) = fun x => !(rowOf (m - i) z).contains x := by
    funext x
    rw [any_has]
  unfold inRow
  rw [e]
  generalize (rowOf i z).filter _ = l
  cases l <;> simp
theorem in_yes {i m z : Nat} (h : (((rowOf i z).filter fun x => !((rowOf (m - i) z).any (· == x))).map Dat.str) = []) : withinOf m z (i + 1) = withinOf m z i + 1 := by
  have e : inRow i m z = true := by rw [inRow_eq]; exact decide_eq_true h
  unfold withinOf
  rw [List.range_succ, List.filter_append, List.length_append]
  simp [e]
theorem in_no {i m z : Nat} (h : ¬ (((rowOf i z).filter fun x => !((rowOf (m - i) z).any (· == x))).map Dat.str) = []) : withinOf m z (i + 1) = withinOf m z i := by
  have e : inRow i m z = false := by rw [inRow_eq]; exact decide_eq_false h
  unfold withinOf
  rw [List.range_succ, List.filter_append, List.length_append]
  simp [e]
theorem row_strOk : ∀ n < 8, ∀ z < 9, (rowOf n z).all PyData.strOk = true := by decide +kernel
theorem row_ok {n z : Nat} {f : Str → Bool} (hn : n < 8) (hz : z < 9) : ∀ d ∈ ((rowOf n z).filter f).map Dat.str, kqdOk 8 d = true := by
  intro d hd
  obtain ⟨x, hx, rfl⟩ := List.mem_map.mp hd
  exact List.all_eq_true.mp (row_strOk n hn z hz) x (List.mem_filter.mp hx).1
theorem rows_in3 {h₀ h' : Heap} {L : Addr} {m' : Str → Option Value} {J : (Str → Option Value) → List (Addr × Obj) → Prop} {ci : Addr} {oi oi' : Obj} {g1 g2 y1 y2 x1 x2 x4 x5 x6 : Addr × Obj} {R own : List (Addr × Obj)} {s₁ : Shared} {tk : Nat} (F : Fr h₀ L h' m')
    (N : News h₀ L h' (g1 :: g2 :: y1 :: y2 :: x1 :: x2 :: (ci, oi') :: x4 :: x5 :: x6 :: (R ++ own))) (hoff : OwnOff own ((x1 :: x2 :: (ci, oi) :: x4 :: x5 :: x6 :: R).map (·.1)))
    (hj : J m' (x1 :: x2 :: (ci, oi') :: x4 :: x5 :: x6 :: R)) : InvEndG h₀ L J own s₁ { s₁ with heap := h', toks := tk } :=
  InvEndG.intro F N hj hoff (fun x hx => by
    simp only [List.mem_cons, List.mem_append] at hx ⊢
    rcases hx with h | h | h | h | h | h | h <;> simp [h]) (fun x hx => by
    simp only [List.mem_cons, List.mem_append]
    simp [hx])
theorem half : ∀ k < 8, ((0 : Int) + ((k : Nat) : Int)).fdiv 2 + 1 = ((k / 2 + 1 : Nat) : Int) := by decide +kernel
theorem small_nat : ∀ n < 9, Builtin.Range.small 0 ((n : Nat) : Int) 1 = true ∧ Builtin.Range.rangeSize 0 ((n : Nat) : Int) 1 = ((n : Nat) : Int) := by decide +kernel
theorem rows_in2 {h₀ h' : Heap} {L : Addr} {m' : Str → Option Value} {J : (Str → Option Value) → List (Addr × Obj) → Prop} {ca ci cm : Addr} {oa oa' oi oi' om om' : Obj} {x2 x5 x6 : Addr × Obj} {R own : List (Addr × Obj)} {s₁ : Shared} {tk : Nat} (F : Fr h₀ L h' m')
    (N : News h₀ L h' ((ca, oa') :: x2 :: (ci, oi') :: (cm, om') :: x5 :: x6 :: (R ++ own))) (hoff : OwnOff own (((ca, oa) :: x2 :: (ci, oi) :: (cm, om) :: x5 :: x6 :: R).map (·.1)))
    (hj : J m' ((ca, oa') :: x2 :: (ci, oi') :: (cm, om') :: x5 :: x6 :: R)) : InvEndG h₀ L J own s₁ { s₁ with heap := h', toks := tk } :=
  InvEndG.intro F N hj hoff (fun x hx => List.mem_append_left own hx) (fun x hx => List.mem_append_right ((ca, oa') :: x2 :: (ci, oi') :: (cm, om') :: x5 :: x6 :: R) hx)
theorem rows_two {h₀ h : Heap} {L : Addr} {x1 x2 x3 x4 x5 x6 y1 y2 : Addr × Obj} {R own : List (Addr × Obj)} (N : News h₀ L h ((x1 :: x2 :: x3 :: x4 :: x5 :: x6 :: R) ++ own)) (h1 : y1 ∈ R) (h2 : y2 ∈ R) : News h₀ L h (y1 :: y2 :: x1 :: x2 :: x3 :: x4 :: x5 :: x6 :: (R ++ own)) := fun p hp => N p (by
  simp only [List.cons_append, List.mem_cons, List.mem_append] at hp ⊢
  rcases hp with h | h | h | h | h | h | h | h | h | h
  · rw [h]; simp [h1]
  · rw [h]; simp [h2]
  all_goals simp [h])
theorem strs_dat {n : List (Addr × Obj)} : ∀ {vs : List Value} {ys : List Str}, StrsAre vs ys → DatAll n vs (ys.map Dat.str)
  | _, _, .nil => .nil
  | _, _, .cons _ _ h => .cons (.str _ _) (strs_dat h)
section
variable {prog : Program} {w : World} {A : Around} {E : Value → Shared → Prop} {s : Shared} {h₀ : Heap} {L : Addr} {news : List (Addr × Obj)} {u : Tok} {Q : Value → Shared → Prop}
theorem item_arr {value slice : PySem.Expr} {l : Addr} {vs : Array Value} {k j : Nat} {i : Int} {v : Value} (N : News h₀ L s.heap news) (hm : (l, listOf vs k) ∈ news) (hv : vs[j]? = some v) (hi : i = (j : Int)) (hj : j < 2 ^ 63) (h : Q v s)
    (hs : subscripted slice false (.ref l) (.int i u) = operate [.ref l, .int i u] (getItem (.ref l) (.int i u)) := by with_unfolding_all rfl) :
    wpAny (model prog w) A (subscriptTail value slice (.ref l) (.int i u)) Q E s := by
  subst hi
  have hl := News.isList N hm
  exact tail_any hl.typeIs slot_list_getitem.lookup (wpAny_getItem_list hl (by omega) (by exact_mod_cast hj) (x := v) (by simpa using hv) h) hs
end
local macro_rules | `(tactic| walk_at "subscriptTail") => `(tactic| (k_here; k_dflt (refine' item_arr ?N ?m ?w ?h0 ?h1 ?_; (case N => k_asm); (case m => k_mem); (case w => assumption); (case h0 => omega); (case h1 => omega))))
local macro_rules | `(tactic| walk_at "compareOp NotIn str ref") => `(tactic| (k_here; k_dflt (refine' notin_list_strs ?k1 ?k2 ?_; (case k1 => exact News.isList (by k_asm) (by k_mem)); (case k2 => assumption))))
local macro_rules | `(tactic| walk_at "compareOp Eq ref ref") => `(tactic| refine stop ?_)
set_option maxHeartbeats 1600000 in
theorem counts_con {prog w mean mg mb} (z : Nat) (hz : z < 9) (ta : Addr) (ts : List Value) (tn : Nat) (hts : StrsAre ts ((List.range 8).map fun n => pf n z)) (news) : Con prog w mean mg mb 123 [.ref ta] ((ta, W.listOf ts.toArray tn) :: news) 2 100 (fun r news' => ∃ ca cv cn, r = .ref ca ∧ IntsAre cv.toList S8 ∧ news' = (ca, W.listOf cv cn) :: (ta, W.listOf ts.toArray tn) :: news) := by
  unfold Con
  refine rowSay ?_
  k_fill
  intro _
  intro dp un gd cn cs a ccd cl outer A₀ base h₀ L m s R B F X N C0 T hk hd hu hret
  k_dflt (walk_at "mine enterC")
  (rename (_ < _ ∧ AllLt _ _) => hL)
  have n1 := fun (p : Addr × Obj) hp => Nat.ne_of_lt (Nat.lt_of_lt_of_le (allLt_all hL.2 p hp) (Nat.le_add_right _ 1))
  have n2 := fun (p : Addr × Obj) hp => Nat.ne_of_lt (Nat.lt_of_lt_of_le (allLt_all hL.2 p hp) (Nat.le_add_right _ (1 + 1)))
  have n3 := fun (p : Addr × Obj) hp => Nat.ne_of_lt (Nat.lt_of_lt_of_le (allLt_all hL.2 p hp) (Nat.le_add_right _ (1 + 1 + 1)))
  k_steps
  unfold Stop
  (rename Fr _ _ _ _ => F1)
  refine For_invVF F1 rfl rfl ?_
  k_steps
  unfold Stop
  (rename News _ _ _ _ => N1)
  (rename Fr _ _ _ _ => F2)
  (rename (_ < _ ∧ _ < _ ∧ _ < _ ∧ _ < _ ∧ AllLt _ _) => l9)
  refine kdl_iter (l := ta) (vs := ts) (nn := tn) (fun i m' nx => Agree [Str.ofString "text"] _ m' ∧ RowsSt z _ _ _ _ _ _ _ (ta, W.listOf ts.toArray tn) news i nx) rfl (by simp) F2 N1 ⟨Agree.refl _ _, #[], 0, [], rfl, fun _ _ h => by simp at h, rfl, fun _ h => (nomatch h)⟩ ?turn ?done
  case done =>
    rintro m₁ nx h tk ⟨hm, rv, rn, tl, rfl, hrv, hsz, htl⟩ F3 N3
    rw [hm.map] at F3
    have hts8 : ts.length = 8 := by
      have := hts.len_eq
      simpa using this
    rw [hts8] at hsz
    have hRn := fun x (hx : x ∈ tl ++ news) => (List.mem_append.mp hx).elim (htl x) (fun h => ⟨Nat.ne_of_lt (allLt_all l9.2.2.2.2 x h), n3 x h, n2 x h, n1 x h⟩)
    have hRr : RowsAre (tl ++ news) rv.toList z := RowsAre.mono hrv fun x hx => List.mem_append_left _ hx
    have hsub : ∀ x ∈ news, x ∈ tl ++ news := fun x hx => List.mem_append_right _ hx
    clear htl hrv
    generalize tl ++ news = R at hRn hRr hsub N3
    k_steps
    unfold Stop
    refine wpAny_For ?_
    k_steps
    unfold Stop
    (rename News _ _ _ _ => N4)
    (rename Fr _ _ _ _ => F4)
    (rename IsRange _ _ _ _ _ _ _ _ => r4)
    (rename (_ < _ ∧ _ < _ ∧ _ < _ ∧ _ < _ ∧ _ < _ ∧ AllLt _ _) => l10)
    refine range_any (n := 8) (fun k m' nx => Agree [Str.ofString "within"] _ m' ∧ ∃ cv cn oi om, nx = (_, W.listOf cv cn) :: (_, W.listOf rv rn) :: (_, oi) :: (_, om) :: (_, _) :: (ta, W.listOf ts.toArray tn) :: R ∧ (∃ vi, oi.data = .cell vi) ∧ (∃ vm, om.data = .cell vm) ∧ IntsAre cv.toList (S8.take (k + 1)) ∧ cv.size ≤ k + 1)
      rfl r4 (by decide) (by decide) F4 N4 ⟨Agree.refl _ _, _, _, _, _, rfl, ⟨_, by assumption⟩, ⟨_, by assumption⟩, .cons _ _ .nil, Nat.le_refl _⟩ ?turn2 ?done2
    case done2 =>
      rintro m₂ nx h2 tk2 ⟨hm2, cv, cn, oi, om, rfl, _, _, hcv, hcs⟩ F5 N5
      rw [hm2.map] at F5
      k_steps
      (rename News _ _ _ _ => N6)
      refine hret _ _ _ _ (by k_asm) ?nn ⟨_, cv, cn, rfl, hcv, rfl⟩
      exact fun p hp => N6 p (by
        simp only [List.mem_cons] at hp ⊢
        rcases hp with h | h | h
        · simp [h]
        · simp [h]
        · simp [hsub p h])
    case turn2 =>
      rintro k m₂ nx h2 tk2 own2 t2 hk hoff2 ⟨hm2, cv, cn, oi, om, rfl, ⟨vi, hvi⟩, ⟨vm, hvm⟩, hcv, hcs⟩ F5 N5
      refine gen_post2 fun K2 hK2 => ?_
      rw [hm2.map] at F5
      have qa : ∀ x ∈ R ++ own2, x.1 ≠ _ := fun x hx => (List.mem_append.mp hx).elim (fun h => Nat.ne_of_lt (allLt_all l10.2.2.2.2.2 x h)) (fun h => hoff2 x h _ List.mem_cons_self)
      have qi : ∀ x ∈ R ++ own2, x.1 ≠ _ := fun x hx => (List.mem_append.mp hx).elim (fun h => (hRn x h).2.1) (fun h => hoff2 x h _ (List.mem_cons_of_mem _ (List.mem_cons_of_mem _ List.mem_cons_self)))
      have qm : ∀ x ∈ R ++ own2, x.1 ≠ _ := fun x hx => (List.mem_append.mp hx).elim (fun h => (hRn x h).2.2.1) (fun h => hoff2 x h _ (List.mem_cons_of_mem _ (List.mem_cons_of_mem _ (List.mem_cons_of_mem _ List.mem_cons_self))))
      have N5' : News _ _ h2 ((_, W.listOf cv cn) :: (_, W.listOf rv rn) :: (_, oi) :: (_, om) :: (_, _) :: (ta, W.listOf ts.toArray tn) :: (R ++ own2)) := N5
      clear N5
      k_steps
      unfold Stop
      refine wpAny_For ?_
      k_steps
      unfold Stop
      (rename News _ _ _ _ => N6)
      (rename Fr _ _ _ _ => F6)
      (rename IsRange _ _ _ _ _ _ _ _ => r6)
      have e2 : ((0 : Int) + (k : Int)).fdiv 2 + 1 = ((k / 2 + 1 : Nat) : Int) := half k hk
      rw [e2] at r6
      obtain ⟨sm1, sm2⟩ := small_nat (k / 2 + 1) (by omega)
      refine range_any (n := k / 2 + 1) (fun i m' nx => Agree [Str.ofString "within"] _ m' ∧ (∃ tw, m' (Str.ofString "within") = some (.int (withinOf k z i : Int) tw)) ∧ ∃ oi, nx = (_, W.listOf cv cn) :: (_, W.listOf rv rn) :: (_, oi) :: (_, _) :: (_, _) :: (ta, W.listOf ts.toArray tn) :: (R ++ own2) ∧ ∃ vi, oi.data = .cell vi)
        rfl r6 sm1 sm2 F6 N6 ⟨Agree.refl _ _, ⟨_, rfl⟩, _, rfl, _, hvi⟩ ?turn3 ?done3
      case done3 =>
        rintro m₃ nx h3 tk3 ⟨hm3, ⟨tw, hmw⟩, oi3, rfl, vi3, hvi3⟩ F7 N7
        rw [hm3.mapF hmw] at F7
        clear sm1 sm2 r4 r6 e2
        k_steps
        (rename News _ _ _ _ => N8)
        (rename Fr _ _ _ _ => F8)
        refine hK2 _ ?_
        refine rows_in2 F8 N8 hoff2 ⟨?ag, _, _, _, _, rfl, ⟨_, hvi3⟩, ⟨_, by assumption⟩, ?is, ?sz⟩
        case ag =>
          refine Agree.trans_sub (Agree.put agree_base (by decide)) ?_ (fun _ h => h)
          repeat (first | exact agree_base | refine Agree.put ?_ (by decide))
        case is =>
          rw [Array.toList_push]
          exact ints_S8 k hk (within_S k hk z hz) hcv
        case sz => rw [Array.size_push]; omega
      case turn3 =>
        rintro i m₃ nx h3 tk3 own3 t3 hi hoff3 ⟨hm3, ⟨tw, hmw⟩, oi3, rfl, vi3, hvi3⟩ F7 N7
        refine gen_post2 fun K3 hK3 => ?_
        rw [hold_one hmw] at F7
        clear sm1 sm2 r4 r6 e2
        have hi8 : i < 8 := by omega
        have hj8 : k - i < 8 := by omega
        obtain ⟨ai, wi, ni, hai, hmi, hsi⟩ := RowsAre.row hRr (i := i) (by omega)
        obtain ⟨aj, wj, nj, haj, hmj, hsj⟩ := RowsAre.row hRr (i := k - i) (by omega)
        have qi3 : ∀ x ∈ R ++ own2 ++ own3, x.1 ≠ _ := fun x hx => (List.mem_append.mp hx).elim (qi x) (fun h => hoff3 x h _ (List.mem_cons_of_mem _ (List.mem_cons_of_mem _ List.mem_cons_self)))
        have qai := (hRn _ hmi).2.1
        have qaj := (hRn _ hmj).2.1
        have N7' := rows_two N7 (List.mem_append_left own2 hmi) (List.mem_append_left own2 hmj)
        have haj' : True ∧ rv[k - i]? = some (.ref aj) := ⟨trivial, haj⟩
        clear N7 haj
        k_steps
        unfold Stop
        refine LCt.CompSrcT.ledger (by rfl) (by k_asm) (by k_asm) (by k_mem) ?csz ?_
        case csz =>
          have e1 := hsi.len_eq
          have e2 := row_len i hi8 z hz
          simp only [List.size_toArray]
          refine Nat.le_trans (Nat.le_trans (Nat.le_of_eq e1) e2) (by decide)
        intro g'
        refine texts_filter hsi (fun x => !((rowOf (k - i) z).any (· == x))) ?cturn ?cfin
        case cturn =>
          intro y t I oI C oC D m₂ ws h tk E' hy hC hx F' N' off' ne'
          have haj := haj'.2
          clear hai haj'
          k_steps
          · exact LCg.CompEnd.intro (by k_asm) (by k_asm) _ (fun p hp => hp) off' (.inr ⟨_, by k_mem, rfl, _, rfl⟩) ⟨rfl, not_yes (by assumption)⟩
          · exact LCg.CompEnd.intro (by k_asm) (by k_asm) _ (fun p hp => hp) off' (.inr ⟨_, by k_mem, rfl, _, rfl⟩) ⟨rfl, by first | exact not_no (by assumption) | exact not_no (Bool.eq_false_iff.mp (by assumption)), _, rfl⟩
        case cfin =>
          intro ws hws
          k_steps
          unfold Stop
          (rename News _ _ _ _ => N8)
          refine kqd_eq N8 (by k_mem) rfl rfl (strs_dat (n := []) hws) (fun _ h => nomatch h) (by k_mem) rfl rfl (.nil (news := [])) (fun _ h => nomatch h) (row_ok hi8 hz) (fun _ h => nomatch h) (by ke_room) ?_
          by_cases hq : (((rowOf i z).filter fun x => !((rowOf (k - i) z).any (· == x))).map Dat.str) = []
          · rw [decide_eq_true hq]
            have hin := in_yes hq
            clear hq
            k_steps
            (rename News _ _ _ _ => N9)
            (rename Fr _ _ _ _ => F9)
            refine hK3 _ ?_
            refine rows_in3 F9 N9 hoff3 ⟨?ag, ⟨_, by rw [hin]; rfl⟩, _, rfl, _, by assumption⟩
            repeat (first | exact hm3 | exact agree_base | refine Agree.put ?_ (by decide))
          · rw [decide_eq_false hq]
            have hin := in_no hq
            clear hq
            k_steps
            (rename News _ _ _ _ => N9)
            (rename Fr _ _ _ _ => F9)
            refine hK3 _ ?_
            refine rows_in3 F9 N9 hoff3 ⟨?ag2, ⟨_, by rw [hin]; rfl⟩, _, rfl, _, by assumption⟩
            repeat (first | exact hm3 | exact agree_base | refine Agree.put ?_ (by decide))
  case turn =>
    rintro i v m₁ nx h tk own hv hoff hmem ⟨hm, rv, rn, tl, rfl, hrv, hsz, htl⟩ F3 N3
    refine gen_post fun K1 hK1 => ?_
    rw [hm.map] at F3
    obtain ⟨y, ty, rfl, hy⟩ := StrsAre.item hts i v hv
    have hi8 : i < 8 := by
      have := (List.getElem?_eq_some_iff.mp hy).1
      simpa using this
    rw [List.getElem?_map, List.getElem?_range hi8] at hy
    obtain rfl : pf i z = y := by simpa using hy
    have hsp := pf_split i hi8 z hz
    have hln := pf_len i hi8 z hz
    have q1 : ∀ x ∈ tl ++ (news ++ own), x.1 ≠ _ := fun x hx => by
      rcases List.mem_append.mp hx with h | h
      · exact (htl x h).1
      · rcases List.mem_append.mp h with h | h
        · exact Nat.ne_of_lt (allLt_all l9.2.2.2.2 x h)
        · exact hoff x h _ List.mem_cons_self
    have N3' : News _ _ h _ := rows_open N3
    k_steps
    unfold Stop
    refine LCt.CompSrcT.ledger (by rfl) (by k_asm) (by k_asm) (by k_mem) ?csz ?_
    case csz =>
      (rename (StrsAre _ (partsOf i z)) => hps)
      have e1 := hps.len_eq
      have e2 : (partsOf i z).length ≤ 3 := parts_len i hi8 z hz
      simp only [List.size_toArray]
      refine Nat.le_trans (Nat.le_trans (Nat.le_of_eq e1) e2) (by decide)
    intro g'
    (rename (StrsAre _ (partsOf i z)) => hps)
    refine texts_filter hps (fun x => x != Str.ofString "0x0") ?cturn ?cfin
    case cturn =>
      intro y t I oI C oC D m₂ ws h tk E' hy hC hx F' N' off' ne'
      k_steps
      · exact LCg.CompEnd.intro (by k_asm) (by k_asm) _ (fun p hp => hp) off' (.inr ⟨_, by k_mem, rfl, _, rfl⟩) ⟨rfl, by assumption, _, rfl⟩
      · exact LCg.CompEnd.intro (by k_asm) (by k_asm) _ (fun p hp => hp) off' (.inr ⟨_, by k_mem, rfl, _, rfl⟩) ⟨rfl, by first | assumption | exact Bool.eq_false_iff.mpr (by assumption)⟩
    case cfin =>
      intro ws hws
      k_steps
      (rename News _ _ _ _ => N5)
      (rename Fr _ _ _ _ => F5)
      (rename (_ ∧ _ ∧ _ ∧ _ ∧ _ ∧ _ ∧ LCg.Off1 _ _) => o1)
      have offD := Off1_mem o1.2.2.2.2.2.2
      refine hK1 _ ?_
      refine rows_end F5 N5 hoff (fun y hy => offD y (by simp [hy])) ⟨(by simp at hmem ⊢), ?ag9, _, _, _ :: tl, rfl, ?rw9, ?sz9, ?ne9⟩
      case ag9 => repeat (first | exact agree_base | refine Agree.put ?_ (by decide))
      case rw9 =>
        rw [Array.toList_push]
        refine RowsAre.push hrv ?_
        rw [Array.length_toList, hsz, ← parts_row i hi8 z hz]
        exact hws
      case sz9 => rw [Array.size_push, hsz]
      case ne9 =>
        intro x hx
        rcases List.mem_cons.mp hx with h | h
        · rw [h]
          exact ⟨fun e => o1.2.1 e.symm, fun e => o1.2.2.1 e.symm, fun e => o1.2.2.2.1 e.symm, fun e => o1.2.2.2.2.1 e.symm⟩
        · exact htl x h
end Mine
end

section
open PySem PySem.W PyProof.Rows PySem.Spec PySem.Calls PySem.Builtin PyProof.Rows.LCg
namespace Mine
section
variable {prog : Program} {w : World} {A : Around} {E : Value → Shared → Prop} {s : Shared} {h₀ : Heap} {L : Addr} {m : Str → Option Value} {env : Env}
/-- the source of a comprehension over a list of triples -/
noncomputable def TriSrc (prog : Program) (w : World) (A : Around) (h₀ : Heap) (L : Addr) (m : Str → Option Value) (env : Env) (elt : Expr) (x₁ x₂ x₃ : Str) (scope : Scope) (Fin : Shared → List Value → List (Addr × Obj) → Prop) (xv : Value) (s₁ : Shared) : Prop :=
  ∃ ax vs k news, ∃ G : Nat → Value → Prop, xv = .ref ax ∧ A.handled = none ∧ Fr h₀ L s₁.heap m ∧ News h₀ L s₁.heap news ∧ (ax, W.listOf vs k) ∈ news ∧ vs.size ≤ sizeLine ∧
    (∀ i v, vs[i]? = some v → ∃ a v1 v2 v3 n, v = .ref a ∧ (a, tupObj [v1, v2, v3] n) ∈ news ∧
      ∀ I oI C oC D m₂ ys h tk (E' : Value → Shared → Prop), NsObj oC m₂ → m₂ x₁ = some v1 → m₂ x₂ = some v2 → m₂ x₃ = some v3 → Fr h₀ L h m → News h₀ L h ((I, oI) :: (C, oC) :: (D, lst ys) :: news) → Off3 I C D news → ((@Ne Nat I C) ∧ (@Ne Nat I D) ∧ (@Ne Nat C D)) →
        wpAny (model prog w) A (eval elt (compEnvC scope [] C env)) (CompEnd h₀ L m { s₁ with heap := h, toks := tk } I oI C oC D (lst ys) (fun _ => True) (fun y news' => news' = news ∧ G i y)) E' { s₁ with heap := h, toks := tk }) ∧
    ∀ ys, ys.length = vs.size → (∀ i y, ys[i]? = some y → G i y) → Fin s₁ ys news
theorem tri_comp {elt iter : Expr} {x₁ x₂ x₃ : Str} {p₁ p₂ p₃ tp : Pos} {tk : Nat} {scope : Scope} {pos : Pos} {Q : Value → Shared → Prop}
    (_F₀ : Fr h₀ L s.heap m) (hclos : closureFor scope env = pure []) (hcell : ∀ y ∈ scope.names, y.2 ≠ .cell) (hkind : scope.kind = .function)
    (hnames : ∀ y ∈ scope.names, y.2 = .local → scope.names.lookup y.1 = some .local) (hx₁ : scope.names.lookup x₁ = some .local) (hx₂ : scope.names.lookup x₂ = some .local) (hx₃ : scope.names.lookup x₃ = some .local)
    (h12 : x₁ ≠ x₂) (h13 : x₁ ≠ x₃) (h23 : x₂ ≠ x₃)
    (h : wpAny (model prog w) A (eval iter env) (TriSrc prog w A h₀ L m env elt x₁ x₂ x₃ scope (fun s₂ => FinE h₀ L m s₂ Q)) E s)
    (hs : ∀ x, foldedSetIterable iter env x = pure x := by intro _; rfl) :
    wpAny (model prog w) A (eval (.ListComp elt [⟨.Tuple [.Name x₁ p₁, .Name x₂ p₂, .Name x₃ p₃] tk tp, iter, [], 0⟩] scope pos) env) Q E s := by
  rw [eval_ListComp]
  refine wpAny_comprehension_free (use := none) rfl hs hclos hkind hnames (wpAny_mono h (fun xv s₁ h₁ => ?_) fun _ _ e => e)
  obtain ⟨ax, vs, k, news, G, rfl, hh, F, N, hm, hsz, turn, fin⟩ := h₁
  have hl : s₁.heap.IsList ax vs := ⟨_, (N _ hm).1, rfl, _, rfl⟩
  have hlt : ax < s₁.heap.objs.size := Heap.lt_size (N _ hm).1
  have hnew := next_is_new F
  have hIL : L ≠ s₁.heap.objs.size := Nat.ne_of_lt F.ns.lt
  have W := Walks.list (prog := prog) (w := w) hh s₁.heap.objs.size ax (Nat.ne_of_lt hlt) vs
  refine wpAny_pyIter_list hl ?_
  generalize hg : s₁.heap.push _ = g
  have up : ∀ b o, s₁.heap.get? b = some o → g.get? b = some o := fun b o e => hg ▸ Heap.get?_push_of_some _ e
  have hgI : g.get? s₁.heap.objs.size = some _ := hg ▸ Heap.get?_push_size _ rfl
  have hgs : g.objs.size = s₁.heap.objs.size + 1 := by rw [← hg, Heap.size_push]
  have hst0 : g.IsListIter s₁.heap.objs.size ax 0 ∧ g.IsList ax vs := ⟨⟨_, hgI, rfl, rfl⟩, hg ▸ hl.push _⟩
  generalize hI : s₁.heap.objs.size = I at *
  have Fg := F.keeps up
  have Ng : News h₀ L g news := fun p hp => ⟨up _ _ (N p hp).1, (N p hp).2⟩
  have offI : ∀ p ∈ news, p.1 ≠ I := fun p hp => hI ▸ Nat.ne_of_lt (Heap.lt_size (N p hp).1)
  refine wpAny_newObj_type (wpAny_newFunctionEnv hcell (by intro y hy; simp at hy) (fun h₁ hns₁ hsb₁ => ?_) hkind)
  dsimp only at hns₁ hsb₁ ⊢
  have hD0 : h₀.get? g.objs.size = none := next_is_new Fg
  have hDn : g.get? g.objs.size = none := Heap.get?_none_of_le (Nat.le_refl _)
  have hDL : g.objs.size ≠ L := (Nat.ne_of_lt Fg.ns.lt).symm
  generalize hD : g.objs.size = D at *
  have hpD : (g.push { cls := .type "list", dict := none, data := .seq ([] : List Value).toArray }).get? D = some (lst []) := hD ▸ Heap.get?_push_size _ rfl
  rw [Heap.size_push, hD] at hns₁ hsb₁ ⊢
  have hLD : @LT.lt Nat _ L D := hD ▸ Fg.ns.lt
  have hC0 : h₀.get? (D + 1) = none := Heap.get?_none_of_le (Nat.le_trans Fg.above (Nat.le_of_lt (Nat.lt_succ_of_lt hLD)))
  have sep : ∀ b o, g.get? b = some o → @LT.lt Nat _ b D := fun b o e => hD ▸ Heap.lt_size e
  have hID : @LT.lt Nat _ I D := sep _ _ hgI
  have old : ∀ b o, g.get? b = some o → h₁.get? b = some o := fun b o e => hsb₁.extBut b o (Nat.ne_of_lt (Nat.lt_succ_of_lt (sep _ _ e))) (Heap.get?_push_of_some _ (Heap.get?_push_of_some _ e))
  have hacc : h₁.get? D = some (lst []) := hsb₁.extBut _ _ (Nat.ne_of_lt (Nat.lt_succ_self D)) (Heap.get?_push_of_some _ hpD)
  generalize hC : D + 1 = C at *
  have hDC : D ≠ C := Nat.ne_of_lt (hC ▸ Nat.lt_succ_self D)
  have hIC : I ≠ C := Nat.ne_of_lt (hC ▸ Nat.lt_succ_of_lt hID)
  have hLC : L ≠ C := Nat.ne_of_lt (hC ▸ Nat.lt_succ_of_lt hLD)
  have offD : ∀ p ∈ news, p.1 ≠ D := fun p hp => Nat.ne_of_lt (sep _ _ (Ng p hp).1)
  have offC : ∀ p ∈ news, p.1 ≠ C := fun p hp => Nat.ne_of_lt (hC ▸ Nat.lt_succ_of_lt (sep _ _ (Ng p hp).1))
  have loop : ∀ s₃ : Shared, (∃ tk', s₃ = { s₁ with heap := h₁, toks := tk' }) →
      codeAny (model prog w) A (.compLoop (.ListComp elt [⟨.Tuple [.Name x₁ p₁, .Name x₂ p₂, .Name x₃ p₃] tk tp, iter, [], 0⟩] scope pos) 0 (.ref I) (.ref D) (compEnvC scope [] C env))
        (compPost (model prog w) A E none Q (.ref D) C) s₃ := by
    rintro s₃ ⟨tk₀, rfl⟩
    refine kcp_loop (fun k s' => ∃ h' tk i ys m', s' = { s₁ with heap := h', toks := tk } ∧ i ≤ vs.size ∧ k = vs.size + 1 - i ∧ ys.length = i ∧ (∀ j y, ys[j]? = some y → G j y) ∧ (h'.IsListIter I ax i ∧ h'.IsList ax vs) ∧ Fr h₀ L h' m ∧ h'.Ns C m' ∧ News h₀ L h' ((D, lst ys) :: news)) ?_ (vs.size + 1)
      ⟨h₁, _, 0, [], _, rfl, Nat.zero_le _, rfl, rfl, fun j y e => by simp at e, ?st, Fg.keeps old, hns₁, ?nw⟩
    case st => exact ⟨⟨_, old _ _ hgI, rfl, rfl⟩, by obtain ⟨o, e, r⟩ := hst0.2; exact ⟨o, old _ _ e, r⟩⟩
    case nw =>
      intro p hp
      rcases List.mem_cons.mp hp with rfl | hp
      · exact ⟨hacc, hDL, hD0⟩
      · exact ⟨old _ _ (Ng p hp).1, (Ng p hp).2⟩
    rintro k s' ⟨h', tk1, i, ys, m', rfl, hi, rfl, hyl, hG, hst, F', hn', N'⟩
    by_cases hlt' : i < vs.size
    · refine W.item i _ _ _ hlt' hst fun v h₂ tk₂ hPv hst₂ hk₂ => ?_
      obtain ⟨a, v1, v2, v3, n, rfl, hma, tn⟩ := turn i v hPv
      have F₂ : Fr h₀ L h₂ m := fr_but F' hk₂ hIL (hI ▸ hnew)
      have hn₂ : h₂.Ns C m' := hn'.at' fun o e => hk₂ _ o (by simpa using hIC.symm) e
      have N₂ : News h₀ L h₂ ((D, lst ys) :: news) := news_but N' hk₂ fun p hp => by
        rcases List.mem_cons.mp hp with rfl | hp
        · exact (Nat.ne_of_lt hID).symm
        · exact offI p hp
      have ht : IsTup h₂ a #[v1, v2, v3] := ⟨_, (N₂ _ (List.mem_cons_of_mem _ hma)).1, rfl, _, rfl⟩
      refine wpAny_letOwnedTupleGo_listiter hst₂.1 ?_
      refine assign_Tuple_tuple hh ht rfl rfl fun h₃ he => ?_
      have up₃ : ∀ b o, h₂.get? b = some o → h₃.get? b = some o := fun b o e => he b o (Nat.ne_of_lt (Heap.lt_size e)) e
      refine assignInOrder_cons (wpAny_assign_Name (wpAny_storeName_local (lookup_relabel_local hx₁) (hn₂.at' fun o e => up₃ _ o e) (fun h₄ hn₄ hs₄ => ?_) (by simp [compEnvC, relabel, hkind])))
      refine assignInOrder_cons (wpAny_assign_Name (wpAny_storeName_local (lookup_relabel_local hx₂) hn₄ (fun h₅ hn₅ hs₅ => ?_) (by simp [compEnvC, relabel, hkind])))
      refine assignInOrder_cons (wpAny_assign_Name (wpAny_storeName_local (lookup_relabel_local hx₃) hn₅ (fun h₆ hn₆ hs₆ => ?_) (by simp [compEnvC, relabel, hkind])))
      refine assignInOrder_nil ?_
      have up₆ : ∀ b o, b ≠ C → h₂.get? b = some o → h₆.get? b = some o := fun b o hb e => hs₆.extBut b o hb (hs₅.extBut b o hb (hs₄.extBut b o hb (up₃ b o e)))
      obtain ⟨oI, heI, hoI⟩ : ∃ oI : Obj, h₂.get? I = some oI ∧ ∀ h : Heap, h.get? I = some oI → h.IsListIter I ax (i + 1) := by
        obtain ⟨o, e, r⟩ := hst₂.1
        exact ⟨o, e, fun h e' => ⟨o, e', r⟩⟩
      obtain ⟨oC, heC, hoC⟩ := ns_obj hn₆
      have F₆ : Fr h₀ L h₆ m := (((F₂.keeps up₃).change hs₄ hLC.symm hC0).change hs₅ hLC.symm hC0).change hs₆ hLC.symm hC0
      have N₆ : News h₀ L h₆ ((I, oI) :: (C, oC) :: (D, lst ys) :: news) := fun p hp => by
        rcases List.mem_cons.mp hp with rfl | hp
        · exact ⟨up₆ _ _ hIC heI, hIL.symm, hI ▸ hnew⟩
        · rcases List.mem_cons.mp hp with rfl | hp
          · exact ⟨heC, hLC.symm, hC0⟩
          · have z := N₂ p hp
            refine ⟨up₆ _ _ ?_ z.1, z.2⟩
            rcases List.mem_cons.mp hp with rfl | hp
            · exact hDC
            · exact offC p hp
      refine wpAny_mono (tn I oI C oC D _ ys h₆ _ _ hoC ?e1 ?e2 ?e3 F₆ N₆ (Off3.of fun p hp => ⟨offI p hp, offC p hp, offD p hp⟩) ⟨hIC, Nat.ne_of_lt hID, hDC.symm⟩) (fun y s₄ hend => ?_) fun _ _ e => e
      case e1 => simp [h12, h13]
      case e2 => simp [h23]
      case e3 => simp
      obtain ⟨h₇, tk₇, nw, rfl, F₇, N₇, _, _, rfl, hy⟩ := hend
      have zI := (N₇ (I, oI) List.mem_cons_self).1
      have zC := (N₇ (C, oC) (List.mem_cons_of_mem _ List.mem_cons_self)).1
      have zD := (N₇ (D, lst ys) (List.mem_cons_of_mem _ (List.mem_cons_of_mem _ List.mem_cons_self))).1
      have zN : News h₀ L h₇ nw := fun p hp => N₇ p (List.mem_cons_of_mem _ (List.mem_cons_of_mem _ (List.mem_cons_of_mem _ hp)))
      refine append_at (hsz := by show ys.toArray.size ≤ sizeLine; rw [List.size_toArray, hyl]; exact Nat.le_trans hi hsz) zD fun h₈ hs₈ hD₈ => ?_
      refine ⟨vs.size + 1 - (i + 1), by omega, h₈, tk₇, i + 1, ys ++ [y], _, rfl, hlt', rfl, by rw [List.length_append, List.length_singleton, hyl], ?gg, ⟨?li, ?ls⟩, F₇.change hs₈ hDL hD0, (hoC.ns zC).sameBut hs₈ hDC.symm, ?nn⟩
      case gg =>
        intro j y' e
        by_cases hj : j < ys.length
        · rw [List.getElem?_append_left hj] at e
          exact hG j y' e
        · have hj2 : j = ys.length := by
            have := (List.getElem?_eq_some_iff.mp e).1
            simp at this
            omega
          subst hj2
          simp at e
          subst e
          rw [hyl]
          exact hy
      case li => exact hoI h₈ (hs₈.extBut _ _ (Nat.ne_of_lt hID) zI)
      case ls => exact ⟨_, hs₈.extBut _ _ (offD _ hm) (zN _ hm).1, rfl, _, rfl⟩
      case nn =>
        intro p hp
        rcases List.mem_cons.mp hp with rfl | hp
        · exact ⟨hD₈.trans (congrArg some (lst_snoc ys y)), hDL, hD0⟩
        · exact ⟨hs₈.extBut _ _ (offD p hp) (zN p hp).1, (zN p hp).2⟩
    · obtain rfl : i = vs.size := Nat.le_antisymm hi (Nat.not_lt.mp hlt')
      refine W.done _ _ _ hst fun h₂ tk₂ hk₂ => ?_
      have F₂ : Fr h₀ L h₂ m := fr_but F' hk₂ hIL (hI ▸ hnew)
      have N₂ : News h₀ L h₂ ((D, lst ys) :: news) := news_but N' hk₂ fun p hp => by
        rcases List.mem_cons.mp hp with rfl | hp
        · exact (Nat.ne_of_lt hID).symm
        · exact offI p hp
      refine ⟨m', hn'.at' fun o e => hk₂ _ o (by simpa using hIC.symm) e, fun h₃ hs₃ => fin ys hyl hG D h₃ _ (F₂.change hs₃ hLC.symm hC0) (fun p hp => ?_) (Off3.one (I := I) (C := C) (Off3.of fun p hp => ⟨offI p hp, offC p hp, offD p hp⟩))⟩
      refine ⟨hs₃.extBut _ _ ?_ (N₂ p hp).1, (N₂ p hp).2⟩
      rcases List.mem_cons.mp hp with rfl | hp
      · exact hDC
      · exact offC p hp
  exact codeAny_compStart_list (loop _ ⟨_, rfl⟩) (W.self 0 _ _ _ ⟨⟨_, old _ _ hgI, rfl, rfl⟩, by obtain ⟨o, e, r⟩ := hst0.2; exact ⟨o, old _ _ e, r⟩⟩ (loop _ ⟨_, rfl⟩))
end
end Mine
end

section
open PySem PySem.W PyProof.Rows PySem.Spec PySem.Calls PySem.Builtin
namespace Mine
noncomputable def treeOf (x : Int) : Int × Int × Nat := ((x + 3).fmod 1000, (x.fdiv 7 + 5).fmod 1000, ((x.fdiv 3).fmod 3 + 2).toNat)
noncomputable def TreesAre (tl : List (Addr × Obj)) (ys : List Value) (trees : List (Int × Int × Nat)) : Prop :=
  ys.length = trees.length ∧ ∀ (i : Nat) (x : Int × Int × Nat), trees[i]? = some x → ∃ a n t1 t2 t3, ys[i]? = some (.ref a) ∧ (a, tupObj [.int x.1 t1, .int x.2.1 t2, .int (x.2.2 : Int) t3] n) ∈ tl
theorem TreesAre.push {tl : List (Addr × Obj)} {ys : List Value} {trees : List (Int × Int × Nat)} {a : Addr} {n : Nat} {t1 t2 t3 : Tok} {x : Int × Int × Nat} (h : TreesAre tl ys trees) :
    TreesAre ((a, tupObj [.int x.1 t1, .int x.2.1 t2, .int (x.2.2 : Int) t3] n) :: tl) (ys ++ [.ref a]) (trees ++ [x]) := by
  refine ⟨by simp [h.1], fun i z hz => ?_⟩
  by_cases hi : i < trees.length
  · rw [List.getElem?_append_left hi] at hz
    obtain ⟨a, n, t1, t2, t3, e, hm⟩ := h.2 i z hz
    refine ⟨a, n, t1, t2, t3, ?_, List.mem_cons_of_mem _ hm⟩
    rw [List.getElem?_append_left (by rw [h.1]; exact hi)]
    exact e
  · have e : i = trees.length := by
      have := (List.getElem?_eq_some_iff.mp hz).1
      simp at this
      omega
    subst e
    simp at hz
    subst hz
    exact ⟨a, n, t1, t2, t3, by rw [← h.1]; simp, List.mem_cons_self⟩
theorem tree_ok (k : Int) : (0 ≤ (treeOf k).1 ∧ (treeOf k).1 < 1000) ∧ (0 ≤ (treeOf k).2.1 ∧ (treeOf k).2.1 < 1000) ∧ ((treeOf k).2.2 = 2 ∨ (treeOf k).2.2 = 3 ∨ (treeOf k).2.2 = 4) ∧ (((treeOf k).2.2 : Nat) : Int) = (k.fdiv 3).fmod 3 + 2 := by
  have h1 : (k + 3).fmod 1000 = (k + 3) % 1000 := Int.fmod_eq_emod_of_nonneg _ (by decide)
  have h3 : (k.fdiv 7 + 5).fmod 1000 = (k.fdiv 7 + 5) % 1000 := Int.fmod_eq_emod_of_nonneg _ (by decide)
  have h5 : (k.fdiv 3).fmod 3 = (k.fdiv 3) % 3 := Int.fmod_eq_emod_of_nonneg _ (by decide)
  unfold treeOf
  dsimp only
  rw [h1, h3, h5]
  refine ⟨?_, ?_, ?_, ?_⟩ <;> omega
section
variable {prog : Program} {w : World} {A : Around} {h₀ : Heap} {L : Addr} {m : Str → Option Value} {env : Env} {elt : Expr} {x : Str} {scope : Scope} {cl : List (Str × Addr)} {s : Shared} {S : List (Addr × Obj) → Prop} {Fin : List Value → List (Addr × Obj) → Prop} {news : List (Addr × Obj)}
/-- the comprehension that makes the trees -/
theorem trees_rest {vs : List Value} {xs : List Int} (hI : IntsAre vs xs) (hS : ∀ tl, S (tl ++ news))
    (turn : ∀ k t I oI C oC D m₂ ys nw h tk (E' : Value → Shared → Prop), LCg.NsObj oC m₂ → m₂ x = some (.int k t) → Fr h₀ L h m → News h₀ L h ((I, oI) :: (C, oC) :: (D, LCg.lst ys) :: nw) → LCg.Off3 I C D nw → ((@Ne Nat I C) ∧ (@Ne Nat I D) ∧ (@Ne Nat C D)) →
      wpAny (model prog w) A (eval elt (compEnvC scope cl C env)) (LCg.CompEnd h₀ L m { s with heap := h, toks := tk } I oI C oC D (LCg.lst ys) (fun _ => True)
        (fun y nw' => ∃ a t1 t2 t3 n, y = .ref a ∧ nw' = (a, tupObj [.int ((k + 3).fmod 1000) t1, .int ((k.fdiv 7 + 5).fmod 1000) t2, .int ((k.fdiv 3).fmod 3 + 2) t3] n) :: nw)) E' { s with heap := h, toks := tk })
    (fin : ∀ ys tl, TreesAre tl ys (xs.map treeOf) → (∀ p ∈ tl, p.2.cls = .type "tuple") → Fin ys (tl ++ news)) : LCg.CompRest prog w A h₀ L m env elt x scope cl s S (fun i v => vs.toArray[i]? = some v) Fin vs.toArray.size 0 [] news := by
  have hlen : vs.toArray.size = xs.length := by rw [List.size_toArray]; exact hI.length
  have key : ∀ (j i : Nat) (ys : List Value) (tl : List (Addr × Obj)), i + j = xs.length → TreesAre tl ys ((xs.take i).map treeOf) → (∀ p ∈ tl, p.2.cls = .type "tuple") → LCg.CompRest prog w A h₀ L m env elt x scope cl s S (fun i v => vs.toArray[i]? = some v) Fin j i ys (tl ++ news) := by
    intro j
    induction j with
    | zero =>
      intro i ys tl hi hy hc
      have e : i = xs.length := by omega
      subst e
      rw [List.take_length] at hy
      exact LCg.CompRest.zero (fin ys tl hy hc)
    | succ j ih =>
      intro i ys tl hi hy hc
      refine LCg.CompRest.succ ?_
      intro v I oI C oC D m₂ h tk E' hv hC hx F N off ne
      have hv2 : vs[i]? = some v := by simpa using hv
      obtain ⟨k, t, rfl, hk⟩ := hI.at i v hv2
      refine wpAny_mono (turn k t I oI C oC D m₂ ys _ h tk E' hC hx F N off ne) (fun y s' hq => ?_) fun _ _ e => e
      obtain ⟨h', tk', nw', e1, F', N', off', _, a, t1, t2, t3, n, rfl, rfl⟩ := hq
      refine ⟨h', tk', _, e1, F', N', off', hS (_ :: tl), ?_⟩
      refine ih (i + 1) _ (_ :: tl) (by omega) ?_ (fun p hp => (List.mem_cons.mp hp).elim (fun e => by rw [e]) (hc p))
      rw [List.take_add_one, hk]
      simp only [Option.toList_some, List.map_append, List.map_cons, List.map_nil]
      have := TreesAre.push (a := a) (n := n) (t1 := t1) (t2 := t2) (t3 := t3) (x := treeOf k) hy
      rw [(tree_ok k).2.2.2] at this
      exact this
  rw [hlen]
  exact key xs.length 0 [] [] (by omega) ⟨rfl, fun i x h => by simp at h⟩ (fun _ h => nomatch h)
end
end Mine
end

section
open PySem PySem.W PyProof.Rows PySem.Spec PySem.Calls PySem.Builtin
namespace Mine
noncomputable def lineOf (p q : Int) : Str := Str.ofString "\"" ++ word p q ++ Str.ofString "\"\n"
noncomputable def textOf (trees : List (Int × Int × Nat)) : Str := Txt.join (Str.ofString "") (trees.map fun x => lineOf x.1 x.2.1)
theorem word_cps (u l : Int) : (word u l).cps.toList = 50 :: 50 :: 57 :: 32 :: ((told u).cps.toList ++ (told l).cps.toList) := by
  have e : Str.ofString "229 " = ⟨#[50, 50, 57, 32]⟩ := by decide +kernel
  unfold word
  rw [e]
  simp [Str.cps_append]
theorem told_good {n : Int} (h : 0 ≤ n) : ∀ c ∈ (told n).cps.toList, c ≠ 34 ∧ c ≠ 92 ∧ c ≠ 10 ∧ c < 128 := by
  intro c hc
  rw [told_list] at hc
  have hm := mk_cases n
  simp only [List.mem_cons, List.mem_append, List.not_mem_nil, or_false] at hc
  rcases hc with h1 | h1 | h1 | h1 | h1 | h1 | h1
  · omega
  · omega
  · omega
  · omega
  · have := digs_range h c h1
    omega
  · omega
  · omega
theorem word_good {p q : Int} (hp : 0 ≤ p) (hq : 0 ≤ q) : ∀ c ∈ (word p q).cps.toList, c ≠ 34 ∧ c ≠ 92 ∧ c ≠ 10 ∧ c < 128 := by
  intro c hc
  rw [word_cps] at hc
  simp only [List.mem_cons, List.mem_append] at hc
  rcases hc with h1 | h1 | h1 | h1 | h1 | h1
  · omega
  · omega
  · omega
  · omega
  · exact told_good hp c h1
  · exact told_good hq c h1
theorem line_list (p q : Int) : (lineOf p q).cps.toList = 34 :: ((word p q).cps.toList ++ [34, 10]) := by
  have e1 : Str.ofString "\"" = ⟨#[34]⟩ := by decide +kernel
  have e2 : Str.ofString "\"\n" = ⟨#[34, 10]⟩ := by decide +kernel
  unfold lineOf
  rw [e1, e2]
  simp [Str.cps_append]
theorem join_flat' : ∀ l : List Str, (Str.join (Str.ofString "") l).cps.toList = (l.map fun x => x.cps.toList).flatten
  | [] => rfl
  | [x] => by
    show x.cps.toList = _
    simp
  | x :: y :: r => by
    have e : Str.join (Str.ofString "") (x :: y :: r) = x ++ Str.ofString "" ++ Str.join (Str.ofString "") (y :: r) := rfl
    have e0 : Str.ofString "" = ⟨#[]⟩ := by decide +kernel
    rw [e]
    simp only [Str.cps_append, Array.toList_append, join_flat' (y :: r), List.map_cons, List.flatten_cons]
    rw [e0]
    simp
theorem join_flat (l : List Str) : (Txt.join (Str.ofString "") l).cps.toList = (l.map fun x => x.cps.toList).flatten := by
  have e : Txt.join (Str.ofString "") l = Str.join (Str.ofString "") l := StrLaws.glued_eq_join _ _
  rw [e]
  exact join_flat' l
noncomputable def flat (Ws : List Str) : List Nat := (Ws.map fun W => 34 :: (W.cps.toList ++ [34, 10])).flatten
theorem text_list (trees : List (Int × Int × Nat)) : (textOf trees).cps.toList = flat (trees.map fun x => word x.1 x.2.1) := by
  unfold textOf flat
  rw [join_flat, List.map_map, List.map_map]
  congr 2
  funext x
  exact line_list _ _
theorem flat_len (Ws : List Str) : (flat Ws).length = (Ws.map (fun W => W.length + 3)).sum := by
  unfold flat
  induction Ws with
  | nil => rfl
  | cons W Ws ih =>
    simp only [List.map_cons, List.flatten_cons, List.length_append, List.sum_cons, ih]
    rw [str_len]
    simp
theorem flat_at {Ws : List Str} {i : Nat} {W : Str} (h : Ws[i]? = some W) : ∃ post, (flat Ws).drop (offs Ws i) = 34 :: (W.cps.toList ++ 34 :: 10 :: post) := by
  have hlt := (List.getElem?_eq_some_iff.mp h).1
  have e : Ws = Ws.take i ++ W :: Ws.drop (i + 1) := by
    have h2 : W = Ws[i] := by
      have := List.getElem?_eq_getElem hlt
      rw [h] at this
      exact Option.some.inj this
    rw [h2]
    rw [← List.drop_eq_getElem_cons hlt, List.take_append_drop]
  refine ⟨flat (Ws.drop (i + 1)), ?_⟩
  have e2 : flat Ws = flat (Ws.take i) ++ (34 :: (W.cps.toList ++ [34, 10]) ++ flat (Ws.drop (i + 1))) := by
    conv => lhs; rw [e]
    unfold flat
    simp
  have e3 : offs Ws i = (flat (Ws.take i)).length := by
    rw [flat_len]
    rfl
  rw [e2, e3, List.drop_left]
  simp
theorem get_drop {l : List Nat} {i k : Nat} : (l.drop i)[k]? = l[i + k]? := by simp
theorem text_ok {trees : List (Int × Int × Nat)} (hok : ∀ (i : Nat) (x : Int × Int × Nat), trees[i]? = some x → (0 ≤ x.1 ∧ x.1 < 1000) ∧ (0 ≤ x.2.1 ∧ x.2.1 < 1000)) : TextOk (textOf trees) (trees.map fun x => word x.1 x.2.1) := by
  have hT := text_list trees
  have at' : ∀ k : Nat, (textOf trees).cps[k]? = (flat (trees.map fun x => word x.1 x.2.1))[k]? := fun k => by rw [← hT]; simp
  have hW : ∀ (i : Nat) (W : Str), (trees.map fun x => word x.1 x.2.1)[i]? = some W → ∃ p q, W = word p q ∧ (0 ≤ p ∧ p < 1000) ∧ (0 ≤ q ∧ q < 1000) := by
    intro i W h
    rw [List.getElem?_map] at h
    cases hx : trees[i]? with
    | none => rw [hx] at h; cases h
    | some x =>
      rw [hx] at h
      exact ⟨x.1, x.2.1, (Option.some.inj h).symm, hok i x hx⟩
  generalize hWs : (trees.map fun x => word x.1 x.2.1) = Ws at *
  refine ⟨?_, ?_, ?_, ?_, ?_, ?_⟩
  · intro i W h
    obtain ⟨post, e⟩ := flat_at h
    rw [at', show offs Ws i = offs Ws i + 0 from rfl, ← get_drop, e]
    rfl
  · intro i W h k hk
    obtain ⟨post, e⟩ := flat_at h
    obtain ⟨p, q, rfl, hp, hq⟩ := hW i W h
    have hk' : k < (word p q).cps.toList.length := by rw [← str_len]; exact hk
    refine ⟨(word p q).cps.toList[k], ?_, ?_, ?_⟩
    · rw [at', Nat.add_assoc, ← get_drop, e, Nat.add_comm 1 k, List.getElem?_cons_succ, List.getElem?_append_left hk', List.getElem?_eq_getElem hk']
    · rw [← Array.getElem?_toList, List.getElem?_eq_getElem hk']
    · have := word_good hp.1 hq.1 _ (List.getElem_mem hk')
      exact ⟨this.1, this.2.1, this.2.2.1⟩
  · intro i W h
    obtain ⟨post, e⟩ := flat_at h
    rw [at', Nat.add_assoc, ← get_drop, e, Nat.add_comm 1, List.getElem?_cons_succ, str_len, List.getElem?_append_right (Nat.le_refl _), Nat.sub_self]
    rfl
  · intro i W h
    obtain ⟨post, e⟩ := flat_at h
    rw [at', Nat.add_assoc, ← get_drop, e, show W.length + 2 = (W.length + 1) + 1 from rfl, List.getElem?_cons_succ, str_len, List.getElem?_append_right (Nat.le_succ _)]
    simp
  · rw [at']
    have : (flat Ws).length = offs Ws Ws.length := by
      rw [flat_len]
      unfold offs
      rw [List.take_length]
    rw [← this]
    simp
  · intro i W h
    obtain ⟨p, q, rfl, hp, hq⟩ := hW i W h
    have := word_len (u := p) (l := q) hp.1 (by omega) hq.1 (by omega)
    omega
theorem text_ascii {trees : List (Int × Int × Nat)} (hok : ∀ (i : Nat) (x : Int × Int × Nat), trees[i]? = some x → (0 ≤ x.1 ∧ x.1 < 1000) ∧ (0 ≤ x.2.1 ∧ x.2.1 < 1000)) : (textOf trees).cps.all (· < 128) = true := by
  rw [← Array.all_toList, text_list]
  refine List.all_eq_true.mpr fun c hc => ?_
  unfold flat at hc
  obtain ⟨l, hl, hcl⟩ := List.mem_flatten.mp hc
  obtain ⟨W, hW, rfl⟩ := List.mem_map.mp hl
  obtain ⟨x, hx, rfl⟩ := List.mem_map.mp hW
  obtain ⟨i, hi⟩ := List.getElem?_of_mem hx
  have hb := hok i x hi
  simp only [List.mem_cons, List.mem_append, List.not_mem_nil, or_false] at hcl
  have : c < 128 := by
    rcases hcl with h | h | h | h
    · omega
    · exact (word_good hb.1.1 hb.2.1 c h).2.2.2
    · omega
    · omega
  simpa using this
theorem line_len {p q : Int} (hp : 0 ≤ p ∧ p < 1000) (hq : 0 ≤ q ∧ q < 1000) : (lineOf p q).length ≤ 43 := by
  have := word_len (u := p) (l := q) hp.1 (by omega) hq.1 (by omega)
  rw [str_len, line_list]
  rw [str_len] at this
  simp
  omega
end Mine
end

section
open PySem PySem.W PyProof.Rows PySem.Spec PySem.Calls PySem.Builtin
namespace Mine
theorem lines_are {trees : List (Int × Int × Nat)} {ys : List Value} (hlen : ys.length = trees.length) (hG : ∀ (i : Nat) (y : Value), ys[i]? = some y → ∃ x t, trees[i]? = some x ∧ y = .str (lineOf x.1 x.2.1) t) : StrsAre ys (trees.map fun x => lineOf x.1 x.2.1) := by
  refine kdy_strs (by simp [hlen]) fun j v hv => ?_
  obtain ⟨x, t, hx, e⟩ := hG j v hv
  exact ⟨lineOf x.1 x.2.1, by simp [hx], t, e⟩
theorem sum_le {l : List Str} {B : Nat} (h : ∀ x ∈ l, x.length ≤ B) : (l.map (·.length)).sum ≤ l.length * B := by
  induction l with
  | nil => simp
  | cons x l ih =>
    have h1 := h x List.mem_cons_self
    have h2 := ih fun y hy => h y (List.mem_cons_of_mem _ hy)
    simp only [List.map_cons, List.sum_cons, List.length_cons, Nat.succ_mul]
    omega
theorem lines_room {trees : List (Int × Int × Nat)} (hl3 : trees.length ≤ 3) (hok : ∀ (i : Nat) (x : Int × Int × Nat), trees[i]? = some x → (0 ≤ x.1 ∧ x.1 < 1000) ∧ (0 ≤ x.2.1 ∧ x.2.1 < 1000) ∧ (x.2.2 = 2 ∨ x.2.2 = 3 ∨ x.2.2 = 4)) :
    ((trees.map fun x => lineOf x.1 x.2.1).map (·.length)).sum + (trees.map fun x => lineOf x.1 x.2.1).length ≤ 1048576 := by
  have h := sum_le (l := trees.map fun x => lineOf x.1 x.2.1) (B := 43) (fun y hy => by
    obtain ⟨x, hx, rfl⟩ := List.mem_map.mp hy
    obtain ⟨i, hi⟩ := List.getElem?_of_mem hx
    have := hok i x hi
    exact line_len this.1 this.2.1)
  rw [List.length_map] at h ⊢
  omega
theorem join_lines {prog : Program} {w : World} {A : Around} {E : Value → Shared → Prop} {s : Shared} {h₀ : Heap} {L D : Addr} {news : List (Addr × Obj)} {Q : Value → Shared → Prop} {t : Tok} {trees : List (Int × Int × Nat)} {ys : List Value} (N : News h₀ L s.heap news) (hm : (D, LCg.lst ys) ∈ news)
    (hlen : ys.length = trees.length) (hG : ∀ (i : Nat) (y : Value), ys[i]? = some y → ∃ x t, trees[i]? = some x ∧ y = .str (lineOf x.1 x.2.1) t) (hl3 : trees.length ≤ 3)
    (hok : ∀ (i : Nat) (x : Int × Int × Nat), trees[i]? = some x → (0 ≤ x.1 ∧ x.1 < 1000) ∧ (0 ≤ x.2.1 ∧ x.2.1 < 1000) ∧ (x.2.2 = 2 ∨ x.2.2 = 3 ∨ x.2.2 = 4)) (h : ∀ t' k, Q (.str (textOf trees) t') { s with toks := k }) :
    wpAny (model prog w) A (call (.builtin "str.join") [.str (Str.ofString "") t, .ref D]) Q E s := by
  have hl : s.heap.IsList D ys.toArray := News.isList N hm
  have hs := lines_are hlen hG
  have hr := lines_room hl3 hok
  have h0 : (Str.ofString "").length ≤ 16 := by decide +kernel
  unfold textOf at h
  generalize (trees.map fun x => lineOf x.1 x.2.1) = zs at *
  exact join_listW hl hs h0 hr h
end Mine
end

section
open PySem PySem.W PyProof.Rows PySem.Spec PySem.Calls PySem.Builtin
namespace Mine
theorem start_F1 : True := by
  w_top off
  trivial
theorem fmod_nat (a : Int) {b : Nat} (hb : 0 < b) : ∃ z : Nat, z < b ∧ a.fmod (b : Int) = (z : Int) := by
  have e : a.fmod (b : Int) = a % (b : Int) := Int.fmod_eq_emod_of_nonneg _ (by omega)
  have h1 := Int.emod_nonneg a (show (b : Int) ≠ 0 by omega)
  have h2 := Int.emod_lt_of_pos a (show (0 : Int) < (b : Int) by omega)
  exact ⟨(a % (b : Int)).toNat, by omega, by rw [e]; omega⟩
theorem texts_any {prog w mean mg mb} (a : Int) (t : Tok) (news) : Con prog w mean mg mb 113 [.int (a.fmod 9) t] news 2 40 (fun r news' => ∃ z : Nat, z < 9 ∧ a.fmod 9 = (z : Int) ∧ ∃ a ys, r = .ref a ∧ news' = (a, LCg.lst ys) :: news ∧ StrsAre ys ((List.range 8).map fun n => pf n z)) := by
  obtain ⟨z, hz, e⟩ := fmod_nat a (b := 9) (by decide)
  have e' : a.fmod 9 = (z : Int) := e
  rw [e']
  exact Con.weaken (texts_con z hz t news) (Nat.le_refl _) (Nat.le_refl _) fun r n h => ⟨z, hz, rfl, h⟩
theorem pf_ok : ∀ n < 8, ∀ z < 9, PyData.strOk (pf n z) = true := by decide +kernel
theorem texts_ok {z : Nat} (hz : z < 9) : ∀ d ∈ ((List.range 8).map fun n => pf n z).map Dat.str, kqdOk 8 d = true := by
  intro d hd
  obtain ⟨x, hx, rfl⟩ := List.mem_map.mp hd
  obtain ⟨n, hn, rfl⟩ := List.mem_map.mp hx
  exact pf_ok n (List.mem_range.mp hn) z hz
theorem texts_same {z : Nat} (hz : z < 9) : ((List.range 8).map fun n => pf n z) = ((List.range 8).map fun n => jn n z) :=
  List.map_congr_left fun n hn => pf_jn n (List.mem_range.mp hn) z hz
open Classical in
theorem ne_same {prog : Program} {w : World} {A : Around} {E : Value → Shared → Prop} {s : Shared} {h₀ : Heap} {L a b : Addr} {news n₁ n₂ : List (Addr × Obj)} {xs ys : Array Value} {ka kb : Nat} {ds es : List Dat} {Q : Value → Shared → Prop}
    (N : News h₀ L s.heap news) (ma : (a, W.listOf xs ka) ∈ news) (Da : DatAll n₁ xs.toList ds) (sa : ∀ p ∈ n₁, p ∈ news) (mb : (b, W.listOf ys kb) ∈ news) (Db : DatAll n₂ ys.toList es) (sb : ∀ p ∈ n₂, p ∈ news)
    (ha : ∀ d ∈ ds, kqdOk 8 d = true) (hb : ∀ d ∈ es, kqdOk 8 d = true) (hq : ds = es) (hu : A.units + 64 < cLine) (h : Q (.bool false) s) : wpAny (model prog w) A (compareOp .NotEq (.ref a) (.ref b)) Q E s := by
  refine kqd_ne N ma rfl (xs := xs.toList) rfl Da sa mb rfl (ys := ys.toList) rfl Db sb ha hb hu ?_
  rw [decide_eq_true hq]
  exact h
theorem off160 {h₀ h : Heap} {L : Addr} {l : List (Addr × Obj)} (N : News h₀ L h l) (h160 : (160, tabObj #[]) ∈ l) {p : Addr × Obj} (hp : p ∈ l) (hc : p.2.cls ≠ .none) : p.1 ≠ 160 := by
  intro e
  have h1 := (N p hp).1
  have h2 := (N _ h160).1
  rw [e] at h1
  rw [h1] at h2
  have : p.2 = tabObj #[] := Option.some.inj h2
  exact hc (by rw [this])
theorem news_lex {h₀ h : Heap} {L : Addr} {x1 x2 x3 x4 x5 x6 y1 y2 y3 y4 : Addr × Obj} {tl : List (Addr × Obj)} (N : News h₀ L h (x1 :: x2 :: x3 :: x4 :: x5 :: x6 :: (tl ++ [y1, y2, y3, y4]))) : News h₀ L h (y4 :: x3 :: x6 :: tl) := fun p hp => N p (by
  simp only [List.mem_cons, List.mem_append] at hp ⊢
  rcases hp with h | h | h | h <;> simp [h])
theorem lex_160 {h₀ h : Heap} {L at9 td : Addr} {ts tys : List Value} {tl : List (Addr × Obj)} (N : News h₀ L h ((160, tabObj #[]) :: (at9, LCg.lst ts) :: (td, LCg.lst tys) :: tl)) (hc : ∀ p ∈ tl, p.2.cls = .type "tuple") : ∀ p ∈ (at9, LCg.lst ts) :: (td, LCg.lst tys) :: tl, p.1 ≠ 160 := by
  intro p hp
  refine off160 N List.mem_cons_self (List.mem_cons_of_mem _ hp) ?_
  simp only [List.mem_cons] at hp
  rcases hp with h | h | h
  · rw [h]; exact fun e => nomatch e
  · rw [h]; exact fun e => nomatch e
  · rw [hc p h]; exact fun e => nomatch e
theorem lexoff_new {P : LexP} {a : Addr} {o : Obj} {news : List (Addr × Obj)} (off : LexOff P news) (h1 : ¬ P.lp = a) (h2 : ¬ P.ld = a) (h3 : ¬ P.I = a) : LexOff P ((a, o) :: news) :=
  ⟨fun p hp => (List.mem_cons.mp hp).elim (fun e => by rw [e]; exact fun e => h1 e.symm) (off.lp p), fun p hp => (List.mem_cons.mp hp).elim (fun e => by rw [e]; exact fun e => h2 e.symm) (off.ld p), fun p hp => (List.mem_cons.mp hp).elim (fun e => by rw [e]; exact fun e => h3 e.symm) (off.I p)⟩
theorem depths_are {trees : List (Int × Int × Nat)} {ys : List Value} (hlen : ys.length = trees.length) (hG : ∀ (i : Nat) (y : Value), ys[i]? = some y → ∃ x t, trees[i]? = some x ∧ y = .int (x.2.2 : Int) t) : ∀ (i : Nat) (x : Int × Int × Nat), trees[i]? = some x → ∃ t, ys[i]? = some (Value.int (x.2.2 : Int) t) := by
  intro i x hx
  have hlt : i < ys.length := by
    have := (List.getElem?_eq_some_iff.mp hx).1
    omega
  obtain ⟨x', t, hx', e⟩ := hG i ys[i] (List.getElem?_eq_getElem hlt)
  rw [hx] at hx'
  obtain rfl := Option.some.inj hx'
  exact ⟨t, by rw [List.getElem?_eq_getElem hlt, e]⟩
theorem dat_ok (u l k : Int) : kqdOk 8 (dat u l k) = true := by
  have h1 : PyData.strOk (Str.ofString "one") = true := by decide +kernel
  have h2 : PyData.strOk (Str.ofString "two") = true := by decide +kernel
  simp [dat, kqdOk, h1, h2]
theorem heard_ok (trees : List (Int × Int × Nat)) : ∀ n, ∀ d ∈ heardOf trees n, kqdOk 8 d = true
  | 0, d, h => nomatch h
  | n + 1, d, h => by
    unfold heardOf at h
    rcases List.mem_append.mp h with h | h
    · exact heard_ok trees n d h
    · cases hx : trees[n]? with
      | none => rw [hx] at h; exact nomatch h
      | some x =>
        rw [hx] at h
        obtain ⟨k, _, rfl⟩ := List.mem_map.mp h
        exact dat_ok _ _ _
theorem text_end {Tx : Str} {Ws : List Str} (TO : TextOk Tx Ws) (h1 : 1 ≤ Ws.length) : Tx.cps[offs Ws Ws.length - 1]? = some 10 ∧ Tx.cps[offs Ws Ws.length - 1 + 1]? = none := by
  obtain ⟨n, hn⟩ : ∃ n, Ws.length = n + 1 := ⟨Ws.length - 1, by omega⟩
  have hlt : n < Ws.length := by omega
  have hW : Ws[n]? = some Ws[n] := List.getElem?_eq_getElem hlt
  have e := offs_succ hW
  have a := TO.nl n _ hW
  have b := TO.fin
  rw [hn] at b ⊢
  rw [e] at b ⊢
  constructor
  · rw [show offs Ws n + Ws[n].length + 3 - 1 = offs Ws n + Ws[n].length + 2 from by omega]
    exact a
  · rw [show offs Ws n + Ws[n].length + 3 - 1 + 1 = offs Ws n + Ws[n].length + 3 from by omega]
    exact b
theorem ready_end {Tx : Str} {t : Tok} {trees : List (Int × Int × Nat)} {oI : Obj} {ln : Int} (h : Ready Tx t (trees.map fun x => word x.1 x.2.1) trees.length oI ln) (h1 : 1 ≤ trees.length) :
    StrIt oI Tx t (offs (trees.map fun x => word x.1 x.2.1) (trees.map fun x => word x.1 x.2.1).length - 1) ∧ ln = (trees.length : Int) := by
  rcases h with ⟨h, _⟩ | ⟨_, h2, h3⟩
  · omega
  · rw [List.length_map]
    exact ⟨h2, h3⟩
theorem gen_both {M : Model} {A : Around} {c : Sem Flow} {P : Flow → Shared → Prop} {E : Value → Shared → Prop} {s : Shared} (h : ∀ (K : Flow → Shared → Prop) (E' : Value → Shared → Prop), (∀ v s', P (.ret v) s' → K (.ret v) s') → wpAny M A c K E' s) : wpAny M A c P E s := h P E fun _ _ h => h
theorem dup_head {h₀ h : Heap} {L : Addr} {x : Addr × Obj} {l : List (Addr × Obj)} (N : News h₀ L h l) (hx : x ∈ l) : News h₀ L h (x :: l) := fun p hp => (List.mem_cons.mp hp).elim (fun e => e ▸ N x hx) (N p)
theorem news_due {h₀ h : Heap} {L : Addr} {x c : Addr × Obj} {l : List (Addr × Obj)} (N : News h₀ L h (c :: l)) (hx : x ∈ l) : News h₀ L h (x :: c :: l) := fun p hp => (List.mem_cons.mp hp).elim (fun e => e ▸ N x (List.mem_cons_of_mem _ hx)) (N p)
theorem mem_LD {P : LexP} {w : World} {ws : List Value} {n : Nat} {ln : Int} {t2 : Tok} {oI : Obj} {hl : Addr} {hv : Array Value} {hn : Nat} {dl : Addr} {dv : List Value} {dn : Nat} {r : List (Addr × Obj)} {x a : Addr × Obj} (hm : x ∈ r) : x ∈ a :: LD P w ws n ln t2 oI hl hv hn dl dv dn r :=
  List.mem_append_right [_, _, _, _, _, _, _, _, _, _, _, _] hm
theorem mem_td {y1 y2 y3 : Addr × Obj} {tl nw : List (Addr × Obj)} : y3 ∈ (y1 :: y2 :: y3 :: tl) ++ nw := by simp
theorem mem_tl {y1 y2 y3 x : Addr × Obj} {tl nw : List (Addr × Obj)} (hm : x ∈ tl) : x ∈ (y1 :: y2 :: y3 :: tl) ++ nw := by simp [hm]
theorem lex_td {P : LexP} {x1 x2 y1 y2 y3 : Addr × Obj} {tl nw : List (Addr × Obj)} (h : LexOff P (x1 :: x2 :: ((y1 :: y2 :: y3 :: tl) ++ nw))) : LexOff P [y3, y1] := LexOff.sub h fun x hx => by
  simp only [List.mem_cons, List.not_mem_nil, or_false] at hx
  rcases hx with h | h <;> rw [h] <;> simp
theorem news_fin {P : LexP} {w : World} {h₀ h : Heap} {L : Addr} {ws : List Value} {n : Nat} {ln : Int} {t2 : Tok} {oI : Obj} {d x c a x1 x2 y1 y2 : Addr × Obj} {tl nw nw2 : List (Addr × Obj)} (N : News h₀ L h (d :: ((x :: c :: a :: P.led w ws n ln t2 oI (x1 :: x2 :: ((y1 :: y2 :: x :: tl) ++ nw))) ++ nw2))) : News h₀ L h (P.led w ws n ln t2 oI [x, y1]) := fun p hp => N p (by
  refine List.mem_cons_of_mem _ (List.mem_append_left _ (List.mem_cons_of_mem _ (List.mem_cons_of_mem _ (List.mem_cons_of_mem _ (mem_tail (l := [_, _, _, _, _, _, _, _, _]) (r := [x, y1]) (fun q hq => ?_) hp)))))
  simp only [List.mem_cons, List.mem_append, List.cons_append, List.not_mem_nil, or_false] at hq ⊢
  rcases hq with h | h <;> simp [h])
theorem trees_facts {ws : List Value} {xs : List Int} (_ : IntsAre ws (List.take 2 xs ++ [17])) : ∃ trees, trees = (List.take 2 xs ++ [17]).map treeOf ∧ trees.length ≤ 3 ∧ 1 ≤ trees.length ∧
    ∀ (i : Nat) (x : Int × Int × Nat), trees[i]? = some x → (0 ≤ x.1 ∧ x.1 < 1000) ∧ (0 ≤ x.2.1 ∧ x.2.1 < 1000) ∧ (x.2.2 = 2 ∨ x.2.2 = 3 ∨ x.2.2 = 4) := by
  refine ⟨_, rfl, ?_, ?_, ?_⟩
  · simp only [List.length_map, List.length_append, List.length_take, List.length_singleton]
    omega
  · simp only [List.length_map, List.length_append, List.length_take, List.length_singleton]
    omega
  · intro i x h
    rw [List.getElem?_map] at h
    cases hx : (List.take 2 xs ++ [17])[i]? with
    | none => rw [hx] at h; cases h
    | some k =>
      rw [hx] at h
      have e : treeOf k = x := Option.some.inj h
      have := tree_ok k
      rw [e] at this
      exact ⟨this.1, this.2.1, this.2.2.1⟩
theorem tree_end {h₀ h' : Heap} {L a I C D : Addr} {m : Str → Option Value} {o oI oC oD : Obj} {nw : List (Addr × Obj)} {s₁ : Shared} {tk : Nat} {rest : Value → List (Addr × Obj) → Prop} {y : Value} (F : Fr h₀ L h' m) (N : News h₀ L h' ((a, o) :: (I, oI) :: (C, oC) :: (D, oD) :: nw))
    (l : @LT.lt Nat _ I a ∧ @LT.lt Nat _ C a ∧ @LT.lt Nat _ D a ∧ AllLt a nw) (off : LCg.Off3 I C D nw) (r : rest y ((a, o) :: nw)) : LCg.CompEnd h₀ L m s₁ I oI C oC D oD (fun _ => True) rest y { s₁ with heap := h', toks := tk } :=
  LCg.CompEnd.intro F N ((a, o) :: nw) (fun p hp => by
    simp only [List.mem_cons] at hp ⊢
    rcases hp with h | h | h | h | h <;> simp [h]) ⟨⟨Nat.ne_of_gt l.1, Nat.ne_of_gt l.2.1, Nat.ne_of_gt l.2.2.1⟩, off⟩ trivial r
local macro_rules | `(tactic| k_all) => `(tactic| first | assumption | (refine' allNe_of_lt ?h9 ?e9; (case h9 => assumption); (case e9 => omega)))
local macro_rules | `(tactic| k_room) => `(tactic| ktr_room)
local macro_rules | `(tactic| walk_at "call ref") => `(tactic| refine stop ?_)
local macro_rules | `(tactic| walk_at "call builtin:str.join") => `(tactic| refine stop ?_)
local macro_rules | `(tactic| walk_at "compareOp NotEq ref ref") => `(tactic| refine stop ?_)
local macro_rules | `(tactic| walk_at "TriSrc") => `(tactic| refine stop ?_)
local macro_rules | `(tactic| walk_at "eval ListComp") => `(tactic| (k_here; k_dflt (refine LCg.ListComp_U (F₀ := by k_asm) (by with_unfolding_all rfl) (by decide) (by rfl) (by decide) (by rfl) ?_)))
local macro_rules | `(tactic| walk_at "eval ListComp") => `(tactic| ((with_reducible show wpAny _ _ (eval (Expr.ListComp _ (Comprehension.mk (Expr.Tuple _ _ _) _ _ _ :: _) _ _) _) _ _ _); refine stop ?_))
local macro_rules | `(tactic| walk_at "CompSrc") => `(tactic| refine stop ?_)
local macro_rules | `(tactic| walk_at "call builtin:len") => `(tactic| refine stop ?_)
set_option maxHeartbeats 2400000 in
theorem law_try : PySem.Challenge.rw_tx0012_01.Holds := by
  refine hd ?_
  k_go0
  refine gen_both fun K9 E9 hK9 => ?_
  k_steps
  unfold Stop
  (rename IntsAre _ (List.take 2 _ ++ [17]) => hT)
  refine LCg.CompSrc.ledger (by rfl) (by k_asm) (by k_asm) (by k_mem) ?csz ?_
  case csz =>
    have e1 := hT.length
    rw [List.length_append, List.length_take, List.length_singleton] at e1
    rw [List.size_toArray, e1]
    exact fit_le (by omega)
  intro g'
  refine trees_rest hT (fun tl => .inr ⟨_, List.mem_append_right _ (by k_mem), rfl, _, rfl⟩) ?tturn ?tfin
  case tturn =>
    intro k t I oI C oC D m₂ ys nw h tk E' hC hx F' N' off' ne'
    k_steps
    (rename (_ < _ ∧ _ < _ ∧ _ < _ ∧ AllLt _ _) => l2)
    exact tree_end (by k_asm) (by k_asm) l2 off' ⟨_, _, _, _, _, rfl, rfl⟩
  case tfin =>
    intro tys tl htr hcls
    obtain ⟨trees, hE, hl3, hl1, hok⟩ := trees_facts hT
    rw [← hE] at htr
    k_steps
    unfold Stop
    (rename IntsAre _ (List.take 2 _) => hS)
    refine LCg.CompSrc.ledger (by rfl) (by k_asm) (by k_asm) (by k_mem) ?csz2 ?_
    case csz2 =>
      have e1 := hS.length
      rw [List.length_take] at e1
      rw [List.size_toArray, e1]
      exact fit_le (by omega)
    intro g'
    refine kcf_list (fun k => k.fmod 1000000) hS ?sturn ?sfin
    case sturn =>
      intro k t I oI C oC D m₂ ys h tk E' hk hC hx F' N' off' ne' mark
      k_steps
      all_goals exact LCg.CompEnd.intro (by k_asm) (by k_asm) _ (fun p hp => hp) off' (.inr ⟨_, by k_mem, rfl, _, rfl⟩) ⟨rfl, _, rfl⟩
    case sfin =>
      k_steps
      unfold Stop
      refine Con.use (texts_any _ _ _) (by k_asm) (by k_asm) (by k_asm) (by k_asm) (by assumption) (by k_asm) (by first | exact rfl | assumption) (by ktr_room) (by ktr_units) ?_
      rintro r9 n9 h9 tk9 F9 N9 ⟨z, hz9, hz, at9, ts, rfl, rfl, hts⟩
      rw [hz] at F9
      k_steps
      unfold Stop
      refine Con.use (joined_con z hz9 _ _) (by k_asm) (by k_asm) (by k_asm) (by k_asm) (by assumption) (by k_asm) (by first | exact rfl | assumption) (by ktr_room) (by ktr_units) ?_
      rintro r8 n8 h8 tk8 F8 N8 ⟨aj, js, jn9, rfl, rfl, hjs⟩
      k_steps
      unfold Stop
      rw [← texts_same hz9] at hjs
      (rename News _ _ _ _ => N7)
      refine ne_same N7 (xs := ts.toArray) (by k_mem) (strs_dat (n := []) hts) (fun _ h => nomatch h) (ys := js) (by k_mem) (strs_dat (n := []) hjs) (fun _ h => nomatch h) (texts_ok hz9) (texts_ok hz9) rfl (by ke_room) ?_
      k_steps
      unfold Stop
      k_dflt (refine tri_comp (_F₀ := by k_asm) (by with_unfolding_all rfl) (by decide) (by rfl) (by decide) (by rfl) (by rfl) (by rfl) (by decide) (by decide) (by decide) ?_)
      k_steps
      unfold Stop
      (rename News _ _ _ _ => N6)
      (rename Fr _ _ _ _ => F6)
      refine ⟨_, tys.toArray, _, _, fun i y => ∃ x t, trees[i]? = some x ∧ y = .str (lineOf x.1 x.2.1) t, rfl, rfl, F6, N6, by k_mem, ?tsz, ?tturn1, ?tfin1⟩
      case tsz =>
        rw [List.size_toArray, htr.1]
        exact fit_le (by omega)
      case tturn1 =>
        intro i v hv
        have hv2 : tys[i]? = some v := by simpa using hv
        have hlt : i < trees.length := by
          have := (List.getElem?_eq_some_iff.mp hv2).1
          rw [htr.1] at this
          exact this
        have hx : trees[i]? = some trees[i] := List.getElem?_eq_getElem hlt
        obtain ⟨a, n, t1, t2, t3, e, hm⟩ := htr.2 i _ hx
        have hva : v = .ref a := by
          rw [hv2] at e
          exact Option.some.inj e
        obtain ⟨hp, hq, hd⟩ := hok i _ hx
        generalize trees[i] = x at *
        obtain ⟨p, q, d⟩ := x
        dsimp only at hp hq hd hm
        refine ⟨a, .int p t1, .int q t2, .int (d : Int) t3, n, hva, ?mem1, ?tn1⟩
        case mem1 => repeat (first | exact List.mem_append_left _ hm | apply List.mem_cons_of_mem)
        case tn1 =>
          intro I oI C oC D m₂ ys h tk E' hC h1 h2 h3 F' N' off' ne'
          have hwl := word_len (u := p) (l := q) hp.1 (by omega) hq.1 (by omega)
          k_steps
          unfold Stop
          refine Con.useV (word_con p q _ _ hp.1 (by omega) hq.1 (by omega) _) (by k_asm) (by k_asm) (by k_asm) (by k_asm) (by assumption) (by k_asm) (by first | exact rfl | assumption) (by ktr_room) (by ktr_units) ?_
          intro t9 h9 tk9 F9 N9
          k_steps
          exact LCg.CompEnd.intro (by k_asm) (by k_asm) _ (fun p hp => hp) off' trivial ⟨rfl, (p, q, d), _, hx, rfl⟩
      case tfin1 =>
        intro ys hlen hG
        k_steps
        unfold Stop
        (rename News _ _ _ _ => N5)
        refine join_lines N5 List.mem_cons_self (hlen.trans htr.1) hG hl3 hok ?_
        intro t9 k9
        k_steps
        unfold Stop
        (rename News _ _ _ _ => N4)
        have N3 := news_lex N4
        refine Con.use (lexer_con (textOf trees) _ (text_ascii fun i x h => ⟨(hok i x h).1, (hok i x h).2.1⟩) _ (lex_160 N3 hcls)) (by k_asm) (by k_asm) (by k_asm) N3 (by assumption) (by k_asm) (by first | exact rfl | assumption) (by ktr_room) (by ktr_units) ?_
        rintro r7 n7 h7 tk7 F7 N7 ⟨P, oI, t2, nP, tab, rfl, hit, hok7, hoff7, HL, HE, rfl⟩
        k_steps
        unfold Stop
        k_dflt (refine tri_comp (_F₀ := by k_asm) (by with_unfolding_all rfl) (by decide) (by rfl) (by decide) (by rfl) (by rfl) (by rfl) (by decide) (by decide) (by decide) ?_)
        k_steps
        unfold Stop
        (rename News _ _ _ _ => M6)
        (rename Fr _ _ _ _ => G6)
        refine ⟨_, tys.toArray, _, _, fun i y => ∃ x t, trees[i]? = some x ∧ y = .int (x.2.2 : Int) t, rfl, rfl, G6, M6, by k_mem, ?tsz2, ?tturn2, ?tfin2⟩
        case tsz2 =>
          rw [List.size_toArray, htr.1]
          exact fit_le (by omega)
        case tturn2 =>
          intro i v hv
          have hv2 : tys[i]? = some v := by simpa using hv
          have hlt : i < trees.length := by
            have := (List.getElem?_eq_some_iff.mp hv2).1
            rw [htr.1] at this
            exact this
          have hx : trees[i]? = some trees[i] := List.getElem?_eq_getElem hlt
          obtain ⟨a, n, t1, t2, t3, e, hm⟩ := htr.2 i _ hx
          have hva : v = .ref a := by
            rw [hv2] at e
            exact Option.some.inj e
          generalize trees[i] = x at *
          obtain ⟨p, q, d⟩ := x
          dsimp only at hm
          refine ⟨a, .int p t1, .int q t2, .int (d : Int) t3, n, hva, ?mem2, ?tn2⟩
          case mem2 => repeat (first | exact hm | apply List.mem_cons_of_mem)
          case tn2 =>
            intro I oI C oC D m₂ ys h tk E' hC h1 h2 h3 F' N' off' ne'
            k_steps
            all_goals exact LCg.CompEnd.intro (by k_asm) (by k_asm) _ (fun p hp => hp) off' trivial ⟨rfl, (p, q, d), _, hx, rfl⟩
        case tfin2 =>
          intro dys hdlen hdG
          k_steps
          unfold Stop
          (rename News _ _ _ _ => M5)
          have M4 := rot1 M5
          (rename (_ ∧ _ ∧ _ ∧ _ ∧ _ ∧ _ ∧ _ ∧ _ ∧ _ ∧ _ ∧ _ ∧ _ ∧ LCg.Off1 _ _) => o1)
          have hoffD := lexoff_new (o := W.listOf dys.toArray dys.length) hoff7 o1.1 o1.2.2.1 o1.2.2.2.2.2.2.2.1
          have hdl : dys.length = trees.length := hdlen.trans htr.1
          have TO := text_ok (trees := trees) fun i x h => ⟨(hok i x h).1, (hok i x h).2.1⟩
          refine Con.use (walk_con P hok7 HL TO (dv := dys) (dn := dys.length) hit hoffD (depths_are hdl hdG) hdl hl3 hok) (by k_asm) (by k_asm) (by k_asm) M4 (by assumption) (by k_asm) (by first | exact rfl | assumption) (by ktr_room) (by ktr_units) ?_
          rintro r6 n6 h6 tk6 F6 N6 ⟨hl, n', ln', t2', oI', hv, hn, nw, rfl, rd, hoffW, hneW, hdlW, hdatW, rfl⟩
          k_steps
          unfold Stop
          (rename News _ _ _ _ => M3)
          refine Con.use (counts_con z hz9 at9 ts ts.length hts _) (by k_asm) (by k_asm) (by k_asm) (dup_head M3 (by k_mem)) (by assumption) (by k_asm) (by first | exact rfl | assumption) (by ktr_room) (by ktr_units) ?_
          rintro r5 n5 h5 tk5 F5 N5 ⟨ca, cv, cn, rfl, hcv, rfl⟩
          k_steps
          unfold Stop
          (rename News _ _ _ _ => M2)
          refine Con.use (due_con (trees := trees) (tv := tys) (cv := cv.toList) (tn := tys.length) (cn' := cn) (rest := (at9, LCg.lst ts) :: LD P _ [] n' ln' t2' oI' hl hv hn _ dys dys.length _) htr.1 hl3 hcv ?htrR hok) (by k_asm) (by k_asm) (by k_asm) (news_due M2 (mem_LD mem_td)) (by assumption) (by k_asm) (by first | exact rfl | assumption) (by ktr_room) (by ktr_units) ?_
          case htrR =>
            intro i x hx
            obtain ⟨a, n, t1, t2, t3, e, hm⟩ := htr.2 i x hx
            exact ⟨a, n, t1, t2, t3, e, mem_LD (mem_tl hm)⟩
          rintro r4 n4 h4 tk4 F4 N4 ⟨dl2, hv2, hn2, nw2, rfl, hdat2, rfl⟩
          k_steps
          unfold Stop
          (rename News _ _ _ _ => M1)
          have hsame := due_heard (trees := trees) (fun i x h => (hok i x h).2.2) trees.length
          refine ne_same M1 (xs := hv) (List.mem_cons_of_mem _ (List.mem_append_left _ (List.mem_cons_of_mem _ (List.mem_cons_of_mem _ (List.mem_cons_of_mem _ (by k_mem)))))) hdatW ?sa (ys := hv2) List.mem_cons_self hdat2 (fun p hp => List.mem_cons_of_mem _ hp) (heard_ok trees _) (hsame ▸ heard_ok trees _) hsame.symm (by ke_room) ?_
          case sa => exact fun p hp => List.mem_cons_of_mem _ (List.mem_append_left _ (List.mem_cons_of_mem _ (List.mem_cons_of_mem _ (mem_LD hp))))
          k_steps
          unfold Stop
          (rename News _ _ _ _ => M0)
          have rdE := ready_end rd hl1
          have te := text_end TO (by rw [List.length_map]; exact hl1)
          refine Con.use (tok_end P hok7 HL HE (textOf trees) _ _ oI' n' ln' t2' _ rdE.1 (lex_td hoffW) te.1 te.2) (by k_asm) (by k_asm) (by k_asm) (news_fin M0) (by assumption) (by k_asm) (by first | exact rfl | assumption) (by ktr_room) (by ktr_units) ?_
          rintro r3 n3 h3 tk3 F3 N3 ⟨t', t2'', rfl, rfl⟩
          have hln := rdE.2
          have htl := htr.1
          subst hln
          k_steps
          unfold Stop
          (rename News _ _ _ _ => Z1)
          k_dflt (refine' kun_lenL (items := tys.toArray) (k := (trees.length : Int)) (News.isList Z1 ?zm) (by rw [List.size_toArray, htl]) (by omega) ?_)
          case zm => k_mem
          walk1
          walk1
          walk1
          rw [beq_self_eq_true]
          refine hK9 _ _ ?_
          refine ⟨?_, ?_⟩
          · refine goodW_bool F3 (by assumption) (raisesW_false ?hn) ?hp
            case hn => wrow_none_raised
            case hp =>
              refine' postW_of ?ps ?pv ?pe
              case ps => o_shape
              case pv => wtm_val
              case pe => rfl
          · walk1
end Mine
end
theorem PySem.Challenge.cw_tx0012_01_holds : PySem.Challenge.rw_tx0012_01.Holds := by
  exact Mine.law_try
