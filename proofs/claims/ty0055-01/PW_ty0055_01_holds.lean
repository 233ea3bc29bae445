import PyProof.Rows.All
import Wide.All
import OpenK.AllK
import Wide.FinOn
import Open.TreeImp
import Open.FastT9
import KE.LcTurns
import PyProof.StrLawsTight
import KE.KSetInts
import Lean
import PySem.Challenge.RW_ty0055_01
set_option Elab.async false
set_option compiler.extract_closed false
section
open PySem PySem.W PyProof.Rows
namespace Mine
/-- the top's statements -/
noncomputable def stm (n : Nat) : Stmt := PySem.Challenge.pw_ty0055_01.main.body.getD n (.Pass ⟨0, 0, 0, 0⟩)
/-- the program, less the statements that the law does not come to -/
noncomputable def view : Program := { PySem.Challenge.rw_ty0055_01.row.toRowW.prog with main := { PySem.Challenge.rw_ty0055_01.row.toRowW.prog.main with body := [stm 0, stm 1, stm 3, stm 4, stm 5, stm 6, stm 12, stm 13, stm 15, stm 16, stm 17, stm 19, stm 20, stm 21, stm 22, stm 23, stm 24] } }
set_option maxRecDepth 100000 in
theorem looks : looksOpen PySem.Challenge.rw_ty0055_01.row.prog = true := by
  delta looksOpen
  repeat' with_reducible refine look_both ?_ ?_
  all_goals ((try rw [Fast.te11788848310118352699]); (try rw [Fast.te12862048085361865435]); (try rw [Fast.te8377067652309620493]); (try rw [Fast.te18344453789297297638]); (try rw [Fast.te8326940854005059898]); (try rw [Fast.te17119622794617984870]); decide +kernel)
set_option maxRecDepth 100000 in
theorem part : OpenRow.partSaid PySem.Challenge.rw_ty0055_01.row = true := by
  delta OpenRow.partSaid
  repeat' with_reducible refine look_both ?_ ?_
  all_goals first | with_reducible exact looks | decide +kernel
set_option maxRecDepth 100000 in
theorem saidWell : OpenLaw.wellSaid PySem.Challenge.rw_ty0055_01 = true := by
  delta OpenLaw.wellSaid OpenRow.wellSaid
  repeat' with_reducible refine look_both ?_ ?_
  all_goals first | with_reducible exact part | ((try rw [Fast.te8179353310426384613]); (try rw [Fast.te8326940854005059898]); (try rw [Fast.te9558739934217749035]); (try rw [Fast.te16286561074155671207]); (try rw [Fast.te6984425678791042302]); (try rw [Fast.te17119622794617984870]); decide +kernel)
/-- a run on a tree, till a thread that stops -/
noncomputable def runT (stop : Thread → Option Bool) (st : SharedT → Thread → Option (SharedT × Thread)) : Nat → SharedT → Thread → Option SharedT
  | 0, _, _ => none
  | n + 1, s, t => match stop t with
    | some b => match b with
      | true => some s
      | false => none
    | none => (st s t).bind fun x => runT stop st n x.1 x.2
theorem runT_of {stop : Thread → Option Bool} {st : SharedT → Thread → Option (SharedT × Thread)} {R : Nat → Shared → Thread → Option Shared} (a : ∀ n s t, stop t = some true → R (n + 1) s t = some s)
    (b : ∀ n s t x, stop t = none → st s t = some x → R (n + 1) s.abs t = R n x.1.abs x.2) : ∀ {n : Nat} {s s' : SharedT} {t : Thread}, runT stop st n s t = some s' → R n s.abs t = some s'.abs
  | 0, _, _, _, h => nomatch h
  | n + 1, s, s', t, h => by
    unfold runT at h
    cases e : stop t with
    | some c =>
      rw [e] at h
      cases c with
      | true => obtain rfl := Option.some.inj h; exact a n s.abs t e
      | false => cases h
    | none =>
      rw [e] at h
      obtain ⟨x, f, h⟩ := Option.bind_eq_some_iff.mp h
      exact (b n s t x e f).trans (runT_of a b h)
noncomputable def stopTop (ok : Thread → Bool) (t : Thread) : Option Bool := match through t with
  | true => some true
  | false => match ok t with
    | true => none
    | false => some false
noncomputable def stopImp (t : Thread) : Option Bool := t.atExitBegin.map List.isEmpty
section
variable {tb : String → Option Builtin} {p : Program} {w : World}
theorem topRunT_of {n₀ : Nat} {ann : Option Value} {n : Nat} {s s' : SharedT} {t : Thread} (h : runT (stopTop (stepOk n₀ ann)) (stepT (denote tb) p w) n s t = some s') : topRun tb p w n₀ ann n s.abs t = some s'.abs := by
  refine runT_of (R := topRun tb p w n₀ ann) (fun n s t e => ?_) (fun n s t x e f => ?_) h
  all_goals
    unfold stopTop at e
    rw [topRun]
    cases k : through t with
    | true => first | rfl | (rw [k] at e; cases e)
    | false =>
      rw [k] at e
      cases l : stepOk n₀ ann t with
      | false => rw [l] at e; cases e
      | true => rw [l] at e; first | (rw [stepT_spec f]) | cases e
theorem impEndsT_of {n : Nat} {s s' : SharedT} {t : Thread} (h : runT stopImp (stepT (denote tb) p w) n s t = some s') : importEnds tb p w n s.abs t = some s'.abs := by
  refine runT_of (R := importEnds tb p w) (fun n s t e => ?_) (fun n s t x e f => ?_) h
  · obtain ⟨l, k, e⟩ := Option.map_eq_some_iff.mp e
    cases l with
    | nil => rw [importEnds, k]
    | cons a b => cases e
  · rw [importEnds, Option.map_eq_none_iff.mp e]
    dsimp only
    rw [stepT_spec f]
/-- a tree that holds a list -/
noncomputable def grown : List Obj → BT → Nat → Option (BT × Nat)
  | [], t, n => some (t, n)
  | o :: l, t, n => match ((t.ins n o).get n).isSome with
    | true => grown l (t.ins n o) (n + 1)
    | false => none
theorem grown_is {life : Life} : ∀ {l : List Obj} {t : BT} {n : Nat} {x : BT × Nat}, grown l t n = some x → absHeap x.1 x.2 life = ⟨(absHeap t n life).objs ++ l.toArray, life⟩
  | [], t, n, x, h => by obtain rfl := Option.some.inj h; exact congrArg (Heap.mk · life) (Array.append_empty).symm
  | o :: l, t, n, x, h => by
    unfold grown at h
    cases hs : ((t.ins n o).get n).isSome with
    | false => rw [hs] at h; cases h
    | true =>
      rw [hs] at h
      refine (grown_is h).trans (congrArg (Heap.mk · life) ?_)
      rw [absHeap_ins hs]
      simp [Heap.push]
noncomputable def planted (s : Shared) : Option SharedT := (grown s.heap.objs.toList .nil 0).map fun x => ⟨x.1, x.2, s.heap.life, s.gens, s.drawn, s.toks, s.os⟩
theorem planted_is {s : Shared} {s' : SharedT} (h : planted s = some s') : s'.abs = s := by
  obtain ⟨x, e, rfl⟩ := Option.map_eq_some_iff.mp h
  refine congrArg (fun H => Shared.mk H s.gens s.drawn s.toks s.os) ((grown_is e).trans ?_)
  exact congrArg (Heap.mk · s.heap.life) (by simp [absHeap, BT.list])
noncomputable def tests (p : Program) (s₀ s₁ : Shared) : Bool :=
  (s₀.heap.isNs mainGlobals && s₀.gens.size == 0) && (staticsOk (importedModules p.main.body) s₀.heap s₁.heap && namesBound p s₁.heap && gensDone s₁ && laidKept s₀.heap s₁.heap)
theorem topFrom_of {N : Nat} {s₀ s₁ : Shared} (r : topRun tb p w s₀.heap.objs.size (s₀.heap.nsMap mainGlobals "__annotations__") N s₀ (topStub p) = some s₁) (c : tests p s₀ s₁ = true) : topFrom tb p w N s₀ = some s₁ := by
  obtain ⟨a, b⟩ := Bool.and_eq_true_iff.mp c
  rw [topFrom, a]
  dsimp only
  rw [r]
  dsimp only [Option.bind]
  rw [b]
noncomputable def openEndsT (st : Program → SharedT → Thread → Option (SharedT × Thread)) (ok : Nat → Option Value → Thread → Bool) (t₀ : Thread) (fence : Shared → Option Shared) (p : Program) (N : Nat) : Option SharedT :=
  (runT stopImp (st (opening p)) N ⟨.nil, 0, {}, #[], {}, 1, { stdin := (opening p).given.stdin.toArray }⟩ t₀).bind fun s => (fence s.abs).bind fun s₀ =>
    (planted s₀).bind fun sT => (runT (stopTop (ok sT.n (s₀.heap.nsMap mainGlobals "__annotations__"))) (st p) N sT (topStub p)).filter fun s₁ => tests p s₀ s₁.abs
theorem openEndsT_of {N : Nat} {s : SharedT} (h : openEndsT (fun p => stepT (denote tb) p w) stepOk (start (opening p)).2 (fenceModules? p) p N = some s) : openEnds tb p w N = some s.abs := by
  obtain ⟨a, ha, h⟩ := Option.bind_eq_some_iff.mp h
  obtain ⟨b, hb, h⟩ := Option.bind_eq_some_iff.mp h
  obtain ⟨c, hc, h⟩ := Option.bind_eq_some_iff.mp h
  obtain ⟨hd, hx⟩ := Option.filter_eq_some_iff.mp h
  have ed := topRunT_of hd
  have ec := planted_is hc
  rw [show c.n = b.heap.objs.size by rw [← ec]; exact (absHeap_size _ _ _).symm, ec] at ed
  exact Option.bind_eq_some_iff.mpr ⟨b, Option.bind_eq_some_iff.mpr ⟨a.abs, impEndsT_of ha, hb⟩, topFrom_of ed hx⟩
theorem leftT {q : Program} {loose : List Str} {Xt : Shared → Bool} {α : Type} {Yf : Shared → α} {Ya : World → α} {N : Nat} {g0 : Bool}
    (h : ∀ w, (openEndsT (fun p => Fast.tw10156331382660048174 (Fast.tw11892475500146522536 Fast.tw14364793385576792824) p w) Fast.tw6613529449190102663 (Fast.tw1435165496053646825 (opening p)).2 (Fast.tw14289696077712309145 p) p N).map
      (fun s => (Fast.tw4187177175401517315 q loose (importedModules p.main.body) Xt g0 s.abs, Yf s.abs)) = some (openGood q loose, Ya w)) : LeftO p q loose Xt Yf Ya N g0 := fun w => by
  have h := h w
  rw [← Fast.te10156331382660048174, ← Fast.te11892475500146522536, ← Fast.te14364793385576792824, ← Fast.te6613529449190102663, ← Fast.te1435165496053646825, ← Fast.te14289696077712309145, ← Fast.te4187177175401517315] at h
  obtain ⟨s, e, e'⟩ := Option.map_eq_some_iff.mp h
  exact Option.map_eq_some_iff.mpr ⟨s.abs, openEndsT_of e, e'⟩
end
/-- the top's end, for any hook -/
theorem opened {d : DefRec} {kwd : List (Str × Expr)} (H : Hook) (hl : LeftO PySem.Challenge.rw_ty0055_01.row.toRowW.prog view [Str.ofString "_twin_re_1", Str.ofString "_twin_re_2", Str.ofString "bisect_right", Str.ofString "insort_left", Str.ofString "bisect_left", Str.ofString "_name_disallowed_re", Str.ofString "_value_disallowed_re"] (fun s => xlAt Mine.view [] s && recOk (RowW.records PySem.Challenge.rw_ty0055_01.row.toRowW) s) H.obs H.val 3144)
    (k1 : PySem.Challenge.rw_ty0055_01.row.wellSaid = true) (e : defOf view PySem.Challenge.rw_ty0055_01.row.name = some (d, kwd)) (hp : PySem.Challenge.rw_ty0055_01.row.toRowW.prog.theDef PySem.Challenge.rw_ty0055_01.row.name = some (d.params, d.body, d.scope))
    (hk : kwWritten? d.params.kwonlyargs d.params.kw_defaults = some kwd) (hw : PySem.Challenge.rw_ty0055_01.row.toRowW.promised)
    (hc : WalkO view [Str.ofString "_twin_re_1", Str.ofString "_twin_re_2", Str.ofString "bisect_right", Str.ofString "insort_left", Str.ofString "bisect_left", Str.ofString "_name_disallowed_re", Str.ofString "_value_disallowed_re"] (XL view []) H.says PySem.Challenge.rw_ty0055_01.row.toRowW d kwd fun f vs => PySem.call f vs) : PySem.Challenge.rw_ty0055_01.row.Holds :=
  W.holds_open hl H.of H.keeps (fun s e => xl_of s (Bool.and_eq_true_iff.mp e).1) XL.keeps e hp hk (fun s e => recFacts_of (Bool.and_eq_true_iff.mp e).2) (by rfl) k1 (by decide +kernel) ⟨rfl, rfl, rfl, rfl, rfl, by decide +kernel⟩ hw hc
set_option hygiene false in
local macro_rules | `(tactic| o_law) => `(tactic| refine W.holds_law Mine.saidWell fun said => ?_)
set_option hygiene false in
local macro_rules | `(tactic| o_head $H) => `(tactic| (refine Mine.opened $H ?hl (by assumption) rfl rfl rfl ?hw ?hc; (case hl => exact leftT fun w => by kernel_rfl)))
set_option maxRecDepth 100000 in
set_option maxHeartbeats 0 in
open_top hd for PySem.Challenge.rw_ty0055_01
end Mine
end
section
open PySem PySem.W PySem.Calls PyProof.Rows
namespace Mine
/-- the end of a first part of a block: the rest goes on behind it -/
noncomputable def Cut (P : Shared → Prop) (Q : Flow → Shared → Prop) (f : Flow) (s : Shared) : Prop := match f with
  | .next => P s
  | f => Q f s
theorem execs_append_wp {M : Model} {A : Around} {E : Value → Shared → Prop} {env : Env} {Q : Flow → Shared → Prop} {Γ : Ctx} (hΓ : Γ.In A) {ys : List Stmt} : ∀ {xs : List Stmt} {p : Pos} {s : Shared},
    Sem.wp M Γ (execs xs env) (fun f _ s' => Cut (fun s' => wpAny M A (execs ys env) Q E s') Q f s') (fun e _ s' => E e s') p s → Sem.wp M Γ (execs (xs ++ ys) env) (fun f _ s' => Q f s') (fun e _ s' => E e s') p s
  | [], p, s, h => (show wpAny M A (execs ys env) Q E s from h) Γ p hΓ
  | x :: xs, p, s, h => by
    rw [List.cons_append, execs_cons, Sem.wp_bind']
    rw [execs_cons, Sem.wp_bind'] at h
    refine Sem.wp_mono M Γ _ (fun f p' s' h' => ?_) (fun _ _ _ h' => h') _ _ h
    cases f with
    | next => exact execs_append_wp hΓ h'
    | brk => exact h'
    | cont => exact h'
    | ret v => exact h'
theorem execs_append {M : Model} {A : Around} {E : Value → Shared → Prop} {env : Env} {Q : Flow → Shared → Prop} {xs ys : List Stmt} {s : Shared}
    (h : wpAny M A (execs xs env) (Cut (fun s' => wpAny M A (execs ys env) Q E s') Q) E s) : wpAny M A (execs (xs ++ ys) env) Q E s :=
  fun Γ p hΓ => execs_append_wp hΓ (h Γ p hΓ)
theorem execs_cut (n : Nat) {M : Model} {A : Around} {E : Value → Shared → Prop} {env : Env} {Q : Flow → Shared → Prop} {l : List Stmt} {s : Shared}
    (h : wpAny M A (execs (l.take n) env) (Cut (fun s' => wpAny M A (execs (l.drop n) env) Q E s') Q) E s) : wpAny M A (execs l env) Q E s := by
  rw [← List.take_append_drop n l]
  exact execs_append h
noncomputable def lawStmt : Stmt := PySem.Challenge.pw_ty0055_01.main.body.getLastD (.Pass ⟨0, 0, 0, 0⟩)
noncomputable def lawBody : List Stmt := match lawStmt with
  | .FunctionDef _ _ body _ _ _ _ _ _ _ => body
  | _ => []
noncomputable def lawScope : Scope := match lawStmt with
  | .FunctionDef _ _ _ _ _ _ sc _ _ _ => sc
  | _ => default
end Mine
end
section
open PySem PySem.W PySem.Calls PyProof.Rows
namespace Mine
noncomputable abbrev PG := PySem.Challenge.pw_ty0055_01
noncomputable abbrev KG := Mine.hd.heap_1
noncomputable abbrev VG := Mine.view
noncomputable abbrev S := Str.ofString
noncomputable abbrev tupO (vs : List Value) (n : Nat) : Obj := { cls := .type "tuple", data := .seq vs.toArray n }
noncomputable abbrev lawEnv (L fa : Addr) (cd : Value) : Env := envOfC (Str.ofString "law") lawScope L fa cd
/-- what a call gives: under every caller that is a def -/
noncomputable abbrev CallSpec (n : Nat) (w : World) (f : Addr) (args : List Value) (kw : List (Str × Value)) (news : List (Addr × Obj)) (R : Value → List (Addr × Obj) → Prop) : Prop :=
  ∀ (mean : ExcName → Option Value) (loose : List Str) (mg mb : Str → Option Value) (dp un : Nat) (gd : Option (List Code)) (cn : Str) (cs : Scope) (a : Addr) (ccd : Value) (cl : List (Str × Addr)) (outer : List Env) (A₀ : Around) (base h₀ : Heap) (L : Addr)
    (m : Str → Option Value) (s : Shared) (Q : Value → Shared → Prop) (E : Value → Shared → Prop),
    Below A₀ base outer h₀ → Fr h₀ L s.heap m → (KG w.params).In h₀ → News h₀ L s.heap news → Top VG loose mean mg mb h₀ → cs.kind = .function → dp + n < recursionLimit → un + 8 * n < cLine →
    (∀ v news' h' tk', R v news' → Fr h₀ L h' m → News h₀ L h' news' → Q v { s with heap := h', toks := tk' }) →
    wpAny (model PG w) (ktrTop dp un gd cn cs L a ccd cl outer) (call (.ref f) args kw) Q E s
theorem CallSpec.use {n : Nat} {w : World} {f : Addr} {args : List Value} {kw : List (Str × Value)} {news : List (Addr × Obj)} {R : Value → List (Addr × Obj) → Prop} (C : CallSpec n w f args kw news R)
    {A : Around} {mean : ExcName → Option Value} {loose : List Str} {mg mb : Str → Option Value} {dp un : Nat} {gd : Option (List Code)} {cn : Str} {cs : Scope} {a : Addr} {ccd : Value} {cl : List (Str × Addr)} {outer : List Env} {A₀ : Around} {base h₀ : Heap} {L : Addr}
    {m : Str → Option Value} {s : Shared} {Q : Value → Shared → Prop} {E : Value → Shared → Prop} (B : Below A₀ base outer h₀) (F : Fr h₀ L s.heap m) (X : (KG w.params).In h₀) (N : News h₀ L s.heap news) (T : Top VG loose mean mg mb h₀)
    (hA : A = ktrTop dp un gd cn cs L a ccd cl outer) (hk : cs.kind = .function) (hd : dp + n < recursionLimit) (hu : un + 8 * n < cLine)
    (ret : ∀ v news' h' tk', R v news' → Fr h₀ L h' m → News h₀ L h' news' → Q v { s with heap := h', toks := tk' }) : wpAny (model PG w) A (call (.ref f) args kw) Q E s := by
  subst hA
  exact C mean loose mg mb dp un gd cn cs a ccd cl outer A₀ base h₀ L m s Q E B F X N T hk hd hu ret
end Mine
end
section
open PySem PySem.W PySem.Calls PyProof.Rows
namespace Mine

/-- here the walk stops -/
noncomputable def Halt (P : Prop) : Prop := P
theorem halt {P : Prop} (h : Halt P) : P := h
theorem go {P : Prop} (h : P) : Halt P := h
theorem Fr_know {g h : Heap} {L : Addr} {m : Str → Option Value} (F : Fr g L h m) {x : Str} {v : Value} (e : m x = some v) : Fr g L h (fun y => if y = x then some v else m y) := by
  have : (fun y => if y = x then some v else m y) = m := by
    funext y
    by_cases q : y = x
    · simp [q, e]
    · simp [q]
  rw [this]; exact F
noncomputable def know : List (Str × Value) → (Str → Option Value) → Str → Option Value
  | [], m => m
  | p :: r, m => fun y => if y = p.1 then some p.2 else know r m y
theorem know_eq {m : Str → Option Value} : ∀ {ps : List (Str × Value)}, (∀ p ∈ ps, m p.1 = some p.2) → know ps m = m
  | [], _ => rfl
  | p :: r, h => by
    funext y
    show (if y = p.1 then some p.2 else know r m y) = m y
    rw [know_eq fun q hq => h q (.tail _ hq)]
    by_cases q : y = p.1
    · simp [q, h p (.head _)]
    · simp [q]
theorem Fr_knows {g h : Heap} {L : Addr} {m : Str → Option Value} (F : Fr g L h m) (ps : List (Str × Value)) (e : ∀ p ∈ ps, m p.1 = some p.2) : Fr g L h (know ps m) := by
  rw [know_eq e]; exact F
theorem News_cons {g h : Heap} {L : Addr} {news : List (Addr × Obj)} (N : News g L h news) {p : Addr × Obj} (hp : p ∈ news) : News g L h (p :: news) := fun q hq => by
  rcases List.mem_cons.mp hq with rfl | hq
  · exact N _ hp
  · exact N _ hq
theorem News_tail {g h : Heap} {L : Addr} {news : List (Addr × Obj)} {p : Addr × Obj} (N : News g L h (p :: news)) : News g L h news := fun q hq => N q (.tail _ hq)
theorem News_sub {g h : Heap} {L : Addr} {news news' : List (Addr × Obj)} (N : News g L h news) (hs : ∀ p ∈ news', p ∈ news) : News g L h news' := fun q hq => N q (hs q hq)
theorem News_isList {g h : Heap} {L : Addr} {news : List (Addr × Obj)} (N : News g L h news) {l : Addr} {vs : Array Value} {n : Nat} (hm : (l, W.listOf vs n) ∈ news) : h.IsList l vs := ⟨_, (N _ hm).1, rfl, n, rfl⟩

theorem int_is {x y : Int} {t : Tok} (e : y = x) : Value.int x t = Value.int y t := by rw [e]
/-- a list's item at a place -/
theorem item_any {prog : Program} {w : World} {A : Around} {E : Value → Shared → Prop} {s : Shared} {value slice : Expr} {l : Addr} {vs : List Value} {k : Int} {u : Tok} {v : Value} {Q : Value → Shared → Prop}
    (hl : s.heap.IsList l vs.toArray) (h0 : 0 ≤ k) (hhi : k < 2 ^ 63) (hx : vs[k.toNat]? = some v) (h : Q v s)
    (hs : subscripted slice false (.ref l) (.int k u) = operate [.ref l, .int k u] (getItem (.ref l) (.int k u)) := by with_unfolding_all rfl) :
    wpAny (model prog w) A (subscriptTail value slice (.ref l) (.int k u)) Q E s :=
  tail_any hl.typeIs slot_list_getitem.lookup (wpAny_getItem_list hl h0 hhi (by simpa using hx) h) hs

/-- a value that stands for a row: a tuple of a depth and a pair's letters -/
noncomputable def RowAt (rest : List (Addr × Obj)) (v : Value) (e : Int × Str) : Prop := ∃ a tk u n, v = .ref a ∧ (a, tupO [.int e.1 tk, .str e.2 u] n) ∈ rest
structure Rows (rest : List (Addr × Obj)) (vs : List Value) (es : List (Int × Str)) : Prop where
  len : vs.length = es.length
  at_ : ∀ (i : Nat) (v : Value) (e : Int × Str), vs[i]? = some v → es[i]? = some e → RowAt rest v e
theorem Rows.get {rest : List (Addr × Obj)} {vs : List Value} {es : List (Int × Str)} (R : Rows rest vs es) {i : Nat} (hi : i < es.length) : ∃ a tk u n, vs[i]? = some (.ref a) ∧ (a, tupO [.int es[i].1 tk, .str es[i].2 u] n) ∈ rest := by
  have hv : i < vs.length := by rw [R.len]; exact hi
  obtain ⟨a, tk, u, n, e1, e2⟩ := R.at_ i vs[i] es[i] (List.getElem?_eq_getElem hv) (List.getElem?_eq_getElem hi)
  exact ⟨a, tk, u, n, by rw [List.getElem?_eq_getElem hv, e1], e2⟩
theorem Rows.mono {rest rest' : List (Addr × Obj)} {vs : List Value} {es : List (Int × Str)} (R : Rows rest vs es) (hs : ∀ p ∈ rest, p ∈ rest') : Rows rest' vs es :=
  ⟨R.len, fun i v e hv he => by obtain ⟨a, tk, u, n, e1, e2⟩ := R.at_ i v e hv he; exact ⟨a, tk, u, n, e1, hs _ e2⟩⟩

/-- what a search by halves knows of its bounds -/
structure Bis (es : List (Int × Str)) (p : Int → Prop) (lo hi : Int) : Prop where
  h0 : 0 ≤ lo
  h1 : lo ≤ hi
  h2 : hi ≤ es.length
  low : ∀ i (h : i < es.length), (i : Int) < lo → p es[i].1
  high : ∀ i (h : i < es.length), hi ≤ (i : Int) → ¬ p es[i].1
theorem Bis.start (es : List (Int × Str)) (p : Int → Prop) : Bis es p 0 es.length := ⟨by omega, by omega, by omega, fun i h q => by omega, fun i h q => by omega⟩
theorem Bis.cut {es : List (Int × Str)} {p : Int → Prop} {lo hi mid : Int} (B : Bis es p lo hi) (hl : lo < hi) (hm : mid = (lo + hi).fdiv 2) : lo ≤ mid ∧ mid < hi ∧ 0 ≤ mid ∧ mid.toNat < es.length := by
  have := B.h0; have := B.h2
  have e : (lo + hi).fdiv 2 = (lo + hi) / 2 := Int.fdiv_eq_ediv_of_nonneg _ (by omega)
  rw [e] at hm
  omega
theorem Bis.left {es : List (Int × Str)} {p : Int → Prop} {lo hi mid : Int} (hs : es.Pairwise (fun a b => a.1 ≤ b.1)) (hp : ∀ a b, a ≤ b → p b → p a) (B : Bis es p lo hi) (h1 : lo ≤ mid) (h2 : mid < hi) (hm : mid.toNat < es.length) (hn : ¬ p es[mid.toNat].1) : Bis es p lo mid := by
  refine ⟨B.h0, h1, by have := B.h2; omega, B.low, fun i h q hpi => hn ?_⟩
  have := B.h0
  rcases Nat.lt_or_ge mid.toNat i with hlt | hge
  · exact hp _ _ (List.pairwise_iff_getElem.mp hs _ _ hm h hlt) hpi
  · have : i = mid.toNat := by omega
    subst this; exact hpi
theorem Bis.right {es : List (Int × Str)} {p : Int → Prop} {lo hi mid : Int} (hs : es.Pairwise (fun a b => a.1 ≤ b.1)) (hp : ∀ a b, a ≤ b → p b → p a) (B : Bis es p lo hi) (h1 : lo ≤ mid) (h2 : mid < hi) (hm : mid.toNat < es.length) (hn : p es[mid.toNat].1) : Bis es p (mid + 1) hi := by
  have := B.h0
  refine ⟨by omega, by omega, B.h2, fun i h q => ?_, B.high⟩
  rcases Nat.lt_or_ge i mid.toNat with hlt | hge
  · exact hp _ _ (List.pairwise_iff_getElem.mp hs _ _ h hm hlt) hn
  · have : i = mid.toNat := by omega
    subst this; exact hn
end Mine
end
section
open PySem PySem.W PySem.Calls PyProof.Rows
namespace Mine
theorem fill1 : (PySem.Challenge.rw_ty0055_01, Mine.hd.heap_1) = (PySem.Challenge.rw_ty0055_01, Mine.hd.heap_1) := by
  k_fill
  rfl
local macro_rules | `(tactic| walk_at "exec While Compare cons nil") => `(tactic| ((with_reducible show wpAny _ _ (exec (Stmt.While _ _ _ _) _) _ _ _); refine halt ?_))
set_option maxRecDepth 100000 in
set_option maxHeartbeats 0 in
theorem depth_spec (w : World) (t : Addr) (d : Int) (tk u : Tok) (p : Str) (n : Nat) (news : List (Addr × Obj)) (hm : (t, tupO [.int d tk, .str p u] n) ∈ news) : CallSpec 1 w 240 [.ref t] [] news (fun v nw => v = .int d tk ∧ nw = news) := by
  intro mean loose mg mb dp un gd cn cs a ccd cl outer A₀ base h₀ L m s Q E B F KX N T hk hdp hun hret
  w_on
  dsimp only [PG, KG, VG, S] at *
  replace N := News_cons N hm
  with_reducible (k_here; (with_reducible show wpAny _ (ktrTop _ _ _ _ _ _ _ _ _ _) _ _ _ _); (refine wpAny_call ?_); (k_dflt (refine' code_def ?k1 ?k2 ?k3 ?k4 ?k5 ?kA ?kF ?kK ?k6 ?k7 ?k8 ?k9 ?kB ?_ ?c2 ?c3 ?c4 ?c5; (case kA => exact rfl); (case kF => exact rfl); (case kK => assumption); (case k1 => k_asm); (case k2 => k_asm); (case k3 => k_asm); (case k4 => k_asm); (case k5 => k_asm); (case k6 => k_is); (case k7 => k_is); (case k8 => ktr_room); (case k9 => first | exact BindsTo.of_eq rfl | exact binds_K (by k_in) rfl (by k_is) rfl rfl rfl | fail "no rule for these arguments"); (case c5 => decide); (case kB => exact locs rfl); (case c2 => exact rfl); (case c3 => exact rfl); (case c4 => exact rfl); k_whole; intro g' L' h' FG' F' N' B' X' T'; (try dsimp only); (try k_lift B'); (try k_fold))))
  k_steps
  rename Fr _ _ _ _ => F'
  rename News _ _ _ _ => N'
  exact hret _ _ _ _ ⟨rfl, rfl⟩ F' (News_tail N')

set_option maxRecDepth 100000 in
set_option maxHeartbeats 0 in
set_option pp.maxSteps 100000 in
theorem bisR_spec (w : World) (al : Addr) (vs : List Value) (ep : Nat) (rest : List (Addr × Obj)) (es : List (Int × Str)) (x : Int) (tx : Tok) (hlen : es.length ≤ 1000) (R : Rows rest vs es) (hsort : es.Pairwise (fun a b => a.1 ≤ b.1)) :
   CallSpec 2 w 64 [.ref al, .int x tx] [(S "key", .ref 240)] ((al, W.listOf vs.toArray ep) :: rest)
     (fun v nw => (∃ (r : Nat) (t : Tok), v = .int r t ∧ r ≤ es.length ∧ (∀ i (h : i < es.length), i < r → es[i].1 ≤ x) ∧ (∀ i (h : i < es.length), r ≤ i → x < es[i].1)) ∧ nw = (al, W.listOf vs.toArray ep) :: rest) := by
  intro mean loose mg mb dp un gd cn cs a ccd cl outer A₀ base h₀ L m s Q E B F KX N T hk hdp hun hret
  w_on
  dsimp only [PG, KG, VG, S] at *
  with_reducible (k_here; (with_reducible show wpAny _ (ktrTop _ _ _ _ _ _ _ _ _ _) _ _ _ _); (refine wpAny_call ?_); (k_dflt (refine' code_def ?k1 ?k2 ?k3 ?k4 ?k5 ?kA ?kF ?kK ?k6 ?k7 ?k8 ?k9 ?kB ?_ ?c2 ?c3 ?c4 ?c5; (case kA => exact rfl); (case kF => exact rfl); (case kK => assumption); (case k1 => k_asm); (case k2 => k_asm); (case k3 => k_asm); (case k4 => k_asm); (case k5 => k_asm); (case k6 => k_is); (case k7 => k_is); (case k8 => ktr_room); (case k9 => first | exact BindsTo.of_eq rfl | exact binds_K (by k_in) rfl (by k_is) rfl rfl rfl | fail "no rule for these arguments"); (case c5 => decide); (case kB => exact locs rfl); (case c2 => exact rfl); (case c3 => exact rfl); (case c4 => exact rfl); k_whole; intro g' L' h' FG' F' N' B' X' T'; (try dsimp only); (try k_lift B'); (try k_fold))))
  k_steps
  refine call_len_list (News_isList (by assumption) (.head _)) (by rw [List.size_toArray, R.len]; omega) ?_
  rw [List.size_toArray, R.len]
  k_steps
  refine go ?_
  rename Fr _ _ _ _ => F1
  rename News _ _ _ _ => N1
  have Fg := F1
  refine While_inv (fun n m₁ nw => nw = (al, W.listOf vs.toArray ep) :: rest ∧ ∃ (lo hi : Int) (tl th : Tok), n = (hi - lo).toNat ∧ Bis es (fun d => d ≤ x) lo hi ∧ m₁ (Str.ofString "a") = some (.ref al) ∧ m₁ (Str.ofString "x") = some (.int x tx) ∧ m₁ (Str.ofString "key") = some (.ref 240) ∧ m₁ (Str.ofString "lo") = some (.int lo tl) ∧ m₁ (Str.ofString "hi") = some (.int hi th)) F1 N1 ⟨rfl, 0, es.length, _, _, rfl, Bis.start _ _, rfl, rfl, rfl, rfl, rfl⟩ ?_
  clear F1 N1
  rintro n m₁ nw h₁ tk₁ F1 N1 ⟨rfl, lo, hi, tl, th, rfl, BB, e1, e2, e3, e4, e5⟩
  replace F1 := Fr_knows F1 [(Str.ofString "a", .ref al), (Str.ofString "x", .int x tx), (Str.ofString "key", .ref 240), (Str.ofString "lo", .int lo tl), (Str.ofString "hi", .int hi th)] (by simp [e1, e2, e3, e4, e5])
  dsimp only [know] at F1
  clear e1 e2 e3 e4 e5
  k_steps
  · have hlt : lo < hi := by assumption
    obtain ⟨c1, c2, c3, c4⟩ := BB.cut hlt rfl
    obtain ⟨a', tk', u', n', hv, hmem⟩ := R.get c4
    refine item_any (News_isList (by assumption) (.head _)) c3 (by have := BB.h2; omega) hv ?_
    k_steps
    refine go ?_
    rename Fr _ _ _ _ => F2
    rename News _ _ _ _ => N2
    refine CallSpec.use (depth_spec w a' _ tk' u' _ n' _ (.tail _ hmem)) (by assumption) F2 (by assumption) N2 (by assumption) rfl rfl ?_ ?_ ?_
    · ktr_room
    · ktr_units
    rintro v nw h' tk' ⟨rfl, rfl⟩ F3 N3
    clear F2 N2
    k_steps
    · rename Fr _ _ _ _ => F4
      rename News _ _ _ _ => N4
      exact WhileStep.intro F4 N4 (by omega) ⟨rfl, lo, _, _, _, rfl, BB.left hsort (fun a b h h' => Int.le_trans h h') c1 c2 c4 (by omega), rfl, rfl, rfl, rfl, rfl⟩
    · rename Fr _ _ _ _ => F4
      rename News _ _ _ _ => N4
      exact WhileStep.intro F4 N4 (by omega) ⟨rfl, _, hi, _, _, rfl, BB.right hsort (fun a b h h' => Int.le_trans h h') c1 c2 c4 (by omega), rfl, rfl, rfl, rfl, rfl⟩
  · rename Fr _ _ _ _ => F4
    rename News _ _ _ _ => N4
    have h0 := BB.h0
    have h1 := BB.h1
    have h2 := BB.h2
    have e : lo = (lo.toNat : Int) := by omega
    refine hret _ _ _ _ ⟨⟨lo.toNat, tl, by rw [← e], by omega, fun i h q => BB.low i h (by omega), fun i h q => ?_⟩, rfl⟩ F4 N4
    have := BB.high i h (by omega)
    omega
set_option maxRecDepth 100000 in
set_option maxHeartbeats 0 in
set_option pp.maxSteps 100000 in
theorem bisL_spec (w : World) (al : Addr) (vs : List Value) (ep : Nat) (rest : List (Addr × Obj)) (es : List (Int × Str)) (x : Int) (tx tz : Tok) (hlen : es.length ≤ 1000) (R : Rows rest vs es) (hsort : es.Pairwise (fun a b => a.1 ≤ b.1)) :
   CallSpec 2 w 82 [.ref al, .int x tx, .int 0 tz, .none] [(S "key", .ref 240)] ((al, W.listOf vs.toArray ep) :: rest)
     (fun v nw => (∃ (r : Nat) (t : Tok), v = .int r t ∧ r ≤ es.length ∧ (∀ i (h : i < es.length), i < r → es[i].1 < x) ∧ (∀ i (h : i < es.length), r ≤ i → x ≤ es[i].1)) ∧ nw = (al, W.listOf vs.toArray ep) :: rest) := by
  intro mean loose mg mb dp un gd cn cs a ccd cl outer A₀ base h₀ L m s Q E B F KX N T hk hdp hun hret
  w_on
  dsimp only [PG, KG, VG, S] at *
  with_reducible (k_here; (with_reducible show wpAny _ (ktrTop _ _ _ _ _ _ _ _ _ _) _ _ _ _); (refine wpAny_call ?_); (k_dflt (refine' code_def ?k1 ?k2 ?k3 ?k4 ?k5 ?kA ?kF ?kK ?k6 ?k7 ?k8 ?k9 ?kB ?_ ?c2 ?c3 ?c4 ?c5; (case kA => exact rfl); (case kF => exact rfl); (case kK => assumption); (case k1 => k_asm); (case k2 => k_asm); (case k3 => k_asm); (case k4 => k_asm); (case k5 => k_asm); (case k6 => k_is); (case k7 => k_is); (case k8 => ktr_room); (case k9 => first | exact BindsTo.of_eq rfl | exact binds_K (by k_in) rfl (by k_is) rfl rfl rfl | fail "no rule for these arguments"); (case c5 => decide); (case kB => exact locs rfl); (case c2 => exact rfl); (case c3 => exact rfl); (case c4 => exact rfl); k_whole; intro g' L' h' FG' F' N' B' X' T'; (try dsimp only); (try k_lift B'); (try k_fold))))
  k_steps
  refine call_len_list (News_isList (by assumption) (.head _)) (by rw [List.size_toArray, R.len]; omega) ?_
  rw [List.size_toArray, R.len]
  k_steps
  refine go ?_
  rename Fr _ _ _ _ => F1
  rename News _ _ _ _ => N1
  have Fg := F1
  refine While_inv (fun n m₁ nw => nw = (al, W.listOf vs.toArray ep) :: rest ∧ ∃ (lo hi : Int) (tl th : Tok), n = (hi - lo).toNat ∧ Bis es (fun d => d < x) lo hi ∧ m₁ (Str.ofString "a") = some (.ref al) ∧ m₁ (Str.ofString "x") = some (.int x tx) ∧ m₁ (Str.ofString "key") = some (.ref 240) ∧ m₁ (Str.ofString "lo") = some (.int lo tl) ∧ m₁ (Str.ofString "hi") = some (.int hi th)) F1 N1 ⟨rfl, 0, es.length, _, _, rfl, Bis.start _ _, rfl, rfl, rfl, rfl, rfl⟩ ?_
  clear F1 N1
  rintro n m₁ nw h₁ tk₁ F1 N1 ⟨rfl, lo, hi, tl, th, rfl, BB, e1, e2, e3, e4, e5⟩
  replace F1 := Fr_knows F1 [(Str.ofString "a", .ref al), (Str.ofString "x", .int x tx), (Str.ofString "key", .ref 240), (Str.ofString "lo", .int lo tl), (Str.ofString "hi", .int hi th)] (by simp [e1, e2, e3, e4, e5])
  dsimp only [know] at F1
  clear e1 e2 e3 e4 e5
  k_steps
  · have hlt : lo < hi := by assumption
    obtain ⟨c1, c2, c3, c4⟩ := BB.cut hlt rfl
    obtain ⟨a', tk', u', n', hv, hmem⟩ := R.get c4
    refine item_any (News_isList (by assumption) (.head _)) c3 (by have := BB.h2; omega) hv ?_
    k_steps
    refine go ?_
    rename Fr _ _ _ _ => F2
    rename News _ _ _ _ => N2
    refine CallSpec.use (depth_spec w a' _ tk' u' _ n' _ (.tail _ hmem)) (by assumption) F2 (by assumption) N2 (by assumption) rfl rfl ?_ ?_ ?_
    · ktr_room
    · ktr_units
    rintro v nw h' tk' ⟨rfl, rfl⟩ F3 N3
    clear F2 N2
    k_steps
    · rename Fr _ _ _ _ => F4
      rename News _ _ _ _ => N4
      exact WhileStep.intro F4 N4 (by omega) ⟨rfl, _, hi, _, _, rfl, BB.right hsort (fun a b h h' => Int.lt_of_le_of_lt h h') c1 c2 c4 (by omega), rfl, rfl, rfl, rfl, rfl⟩
    · rename Fr _ _ _ _ => F4
      rename News _ _ _ _ => N4
      exact WhileStep.intro F4 N4 (by omega) ⟨rfl, lo, _, _, _, rfl, BB.left hsort (fun a b h h' => Int.lt_of_le_of_lt h h') c1 c2 c4 (by omega), rfl, rfl, rfl, rfl, rfl⟩
  · rename Fr _ _ _ _ => F4
    rename News _ _ _ _ => N4
    have h0 := BB.h0
    have h1 := BB.h1
    have h2 := BB.h2
    have e : lo = (lo.toNat : Int) := by omega
    refine hret _ _ _ _ ⟨⟨lo.toNat, tl, by rw [← e], by omega, fun i h q => BB.low i h (by omega), fun i h q => ?_⟩, rfl⟩ F4 N4
    have := BB.high i h (by omega)
    omega

set_option maxRecDepth 100000 in
set_option maxHeartbeats 0 in
set_option pp.maxSteps 100000 in
theorem insort_spec (w : World) (al t : Addr) (vs : List Value) (ep n : Nat) (rest : List (Addr × Obj)) (es : List (Int × Str)) (d : Int) (p : Str) (kt u : Tok) (hlen : es.length ≤ 1000) (R : Rows rest vs es) (hsort : es.Pairwise (fun a b => a.1 ≤ b.1))
   (hne : ∀ p ∈ rest, p.1 ≠ al) (ht : (t, tupO [.int d kt, .str p u] n) ∈ rest) :
   CallSpec 4 w 73 [.ref al, .ref t] [(S "key", .ref 240)] ((al, W.listOf vs.toArray ep) :: rest)
     (fun v nw => v = .none ∧ ∃ (r ep' : Nat), r ≤ es.length ∧ (∀ i (h : i < es.length), i < r → es[i].1 < d) ∧ (∀ i (h : i < es.length), r ≤ i → d ≤ es[i].1) ∧ nw = (al, W.listOf (vs.take r ++ .ref t :: vs.drop r).toArray ep') :: rest) := by
  intro mean loose mg mb dp un gd cn cs a ccd cl outer A₀ base h₀ L m s Q E B F KX N T hk hdp hun hret
  w_on
  dsimp only [PG, KG, VG, S] at *
  with_reducible (k_here; (with_reducible show wpAny _ (ktrTop _ _ _ _ _ _ _ _ _ _) _ _ _ _); (refine wpAny_call ?_); (k_dflt (refine' code_def ?k1 ?k2 ?k3 ?k4 ?k5 ?kA ?kF ?kK ?k6 ?k7 ?k8 ?k9 ?kB ?_ ?c2 ?c3 ?c4 ?c5; (case kA => exact rfl); (case kF => exact rfl); (case kK => assumption); (case k1 => k_asm); (case k2 => k_asm); (case k3 => k_asm); (case k4 => k_asm); (case k5 => k_asm); (case k6 => k_is); (case k7 => k_is); (case k8 => ktr_room); (case k9 => first | exact BindsTo.of_eq rfl | exact binds_K (by k_in) rfl (by k_is) rfl rfl rfl | fail "no rule for these arguments"); (case c5 => decide); (case kB => exact locs rfl); (case c2 => exact rfl); (case c3 => exact rfl); (case c4 => exact rfl); k_whole; intro g' L' h' FG' F' N' B' X' T'; (try dsimp only); (try k_lift B'); (try k_fold))))
  k_steps
  refine go ?_
  rename Fr _ _ _ _ => F2
  rename News _ _ _ _ => N2
  refine CallSpec.use (depth_spec w t d kt u p n _ (.tail _ ht)) (by assumption) F2 (by assumption) N2 (by assumption) rfl rfl ?_ ?_ ?_
  · ktr_room
  · ktr_units
  rintro v nw h' tk' ⟨rfl, rfl⟩ F3 N3
  clear F2 N2
  k_steps
  refine go ?_
  rename Fr _ _ _ _ => F2
  rename News _ _ _ _ => N2
  refine CallSpec.use (bisL_spec w al vs ep rest es d kt _ hlen R hsort) (by assumption) F2 (by assumption) N2 (by assumption) rfl rfl ?_ ?_ ?_
  · ktr_room
  · ktr_units
  rintro v nw h' tk' ⟨⟨r, t', rfl, hr, hlo, hhi⟩, rfl⟩ F3 N3
  clear F2 N2
  k_steps
  rename Fr _ _ _ _ => F4
  rename News _ _ _ _ => N4
  have hrl : r ≤ vs.length := by rw [R.len]; exact hr
  refine kl_insert (its := vs.toArray) (l := vs.take r ++ .ref t :: vs.drop r) F4 N4 ?_ ?_ (Upd.head hne) ?_ ?_
  · simp only [Builtin.List.listFitsIndex, Bool.and_eq_true, decide_eq_true_eq]; omega
  · rw [List.toList_toArray]
    unfold kl_ins
    rw [if_neg (by omega), Int.toNat_natCast, Nat.min_eq_left hrl]
  · rw [List.toList_toArray, R.len, sizeLine_eq]; omega
  intro h5 F5 N5
  clear F4 N4
  k_steps
  rename Fr _ _ _ _ => F6
  rename News _ _ _ _ => N6
  exact hret _ _ _ _ ⟨rfl, r, _, hr, hlo, hhi, rfl⟩ F6 N6
end Mine
end
section
open PySem PySem.W PySem.Calls PyProof.Rows PySem.Flt
namespace Mine
section
variable {prog : Program} {w : World} {A : Around} {E : Value → Shared → Prop} {s : Shared} {Q : Value → Shared → Prop} {a b c : UInt64} {t u x : Tok} {h₀ : Heap} {L : Addr} {m : Str → Option Value} {news : List (Addr × Obj)}
theorem max3f (hh : A.handled = none) (F : Fr h₀ L s.heap m) (N : News h₀ L s.heap news)
    (h : ∀ h' tk t, Fr h₀ L h' m → News h₀ L h' news → Q (.float (maxOfBits [a, b, c]) t) { s with heap := h', toks := tk }) : wpAny (model prog w) A (call (.builtin "max") [.float a t, .float b u, .float c x]) Q E s := by
  have hf : FloatsAre [.float a t, .float b u, .float c x] [a, b, c] := .cons _ _ (.cons _ _ (.cons _ _ .nil))
  have hT : (s.heap.push { cls := .type "tuple", data := .seq #[.float a t, .float b u, .float c x] }).IsTuple s.heap.objs.size #[.float a t, .float b u, .float c x] := ⟨_, Heap.get?_push_size _ rfl, rfl, 0, rfl⟩
  refine call_max_three (wpAny_pyIter_tuple hT ?_)
  have hsz : (s.heap.push { cls := .type "tuple", data := .seq #[.float a t, .float b u, .float c x] }).objs.size = s.heap.objs.size + 1 := Heap.size_push ..
  refine ⟨_, [_, s.heap.objs.size], [_], _, _, _, fun i j => gtB ([a, b, c].getD i 0) ([a, b, c].getD j 0), rfl, Walks.tuple (A := A.in1) hh _ s.heap.objs.size (by rw [hsz]; exact Nat.ne_of_lt (Nat.lt_succ_self _)) #[.float a t, .float b u, .float c x],
    ⟨⟨_, Heap.get?_push_size _ rfl, rfl, rfl⟩, hT.push _⟩, fun d hd => ?_, by simp, fun i j vi vj s Q E hi hj h => ?_, fun v h' tk hP hk => ?_⟩
  · show d < ((s.heap.push _).push _).objs.size
    rw [Heap.size_push, hsz]
    simp only [List.mem_cons, List.not_mem_nil, or_false] at hd
    rcases hd with rfl | rfl
    · rw [hsz]; exact Nat.lt_succ_self _
    · exact Nat.lt_succ_of_lt (Nat.lt_succ_self _)
  · obtain ⟨b', t', rfl, e1⟩ := hf.at i vi (by simpa using hi)
    obtain ⟨c', u', rfl, e2⟩ := hf.at j vj (by simpa using hj)
    simp only [List.getD_eq_getElem?_getD, e1, e2, Option.getD_some] at h
    exact AutoFloatOps.gt_0 (by rw [cmp_gt]; exact h)
  · have hold : ∀ d o, s.heap.get? d = some o → h'.get? d = some o := fun d o e => by
      refine hk d o (fun hm => ?_) (Heap.get?_push_of_some _ (Heap.get?_push_of_some _ e))
      have := Heap.lt_size e
      rw [List.mem_singleton.mp hm, hsz] at this
      exact Nat.lt_irrefl _ (Nat.lt_of_succ_lt this)
    obtain ⟨b', t', rfl, e1⟩ := hf.at _ v ((List.getElem?_toArray).symm.trans hP)
    have e2 := argBest_bits gtB [a, b, c] 2 (Nat.lt_succ_self 2)
    rw [List.getD_eq_getElem?_getD] at e2
    have e3 : b' = maxOfBits [a, b, c] := by
      have : [a, b, c][argBest (fun i j => gtB ([a, b, c].getD i 0) ([a, b, c].getD j 0)) 2]? = some b' := e1
      rw [this] at e2
      exact e2
    subst e3
    exact h h' tk t' (F.keeps hold) (N.grown hold)
theorem min3f (hh : A.handled = none) (F : Fr h₀ L s.heap m) (N : News h₀ L s.heap news)
    (h : ∀ h' tk t, Fr h₀ L h' m → News h₀ L h' news → Q (.float (minOfBits [a, b, c]) t) { s with heap := h', toks := tk }) : wpAny (model prog w) A (call (.builtin "min") [.float a t, .float b u, .float c x]) Q E s := by
  have hf : FloatsAre [.float a t, .float b u, .float c x] [a, b, c] := .cons _ _ (.cons _ _ (.cons _ _ .nil))
  have hT : (s.heap.push { cls := .type "tuple", data := .seq #[.float a t, .float b u, .float c x] }).IsTuple s.heap.objs.size #[.float a t, .float b u, .float c x] := ⟨_, Heap.get?_push_size _ rfl, rfl, 0, rfl⟩
  refine call_min_three (wpAny_pyIter_tuple hT ?_)
  have hsz : (s.heap.push { cls := .type "tuple", data := .seq #[.float a t, .float b u, .float c x] }).objs.size = s.heap.objs.size + 1 := Heap.size_push ..
  refine ⟨_, [_, s.heap.objs.size], [_], _, _, _, fun i j => ltB ([a, b, c].getD i 0) ([a, b, c].getD j 0), rfl, Walks.tuple (A := A.in1) hh _ s.heap.objs.size (by rw [hsz]; exact Nat.ne_of_lt (Nat.lt_succ_self _)) #[.float a t, .float b u, .float c x],
    ⟨⟨_, Heap.get?_push_size _ rfl, rfl, rfl⟩, hT.push _⟩, fun d hd => ?_, by simp, fun i j vi vj s Q E hi hj h => ?_, fun v h' tk hP hk => ?_⟩
  · show d < ((s.heap.push _).push _).objs.size
    rw [Heap.size_push, hsz]
    simp only [List.mem_cons, List.not_mem_nil, or_false] at hd
    rcases hd with rfl | rfl
    · rw [hsz]; exact Nat.lt_succ_self _
    · exact Nat.lt_succ_of_lt (Nat.lt_succ_self _)
  · obtain ⟨b', t', rfl, e1⟩ := hf.at i vi (by simpa using hi)
    obtain ⟨c', u', rfl, e2⟩ := hf.at j vj (by simpa using hj)
    simp only [List.getD_eq_getElem?_getD, e1, e2, Option.getD_some] at h
    exact AutoFloatOps.lt_0 h
  · have hold : ∀ d o, s.heap.get? d = some o → h'.get? d = some o := fun d o e => by
      refine hk d o (fun hm => ?_) (Heap.get?_push_of_some _ (Heap.get?_push_of_some _ e))
      have := Heap.lt_size e
      rw [List.mem_singleton.mp hm, hsz] at this
      exact Nat.lt_irrefl _ (Nat.lt_of_succ_lt this)
    obtain ⟨b', t', rfl, e1⟩ := hf.at _ v ((List.getElem?_toArray).symm.trans hP)
    have e2 := argBest_bits ltB [a, b, c] 2 (Nat.lt_succ_self 2)
    rw [List.getD_eq_getElem?_getD] at e2
    have e3 : b' = minOfBits [a, b, c] := by
      have : [a, b, c][argBest (fun i j => ltB ([a, b, c].getD i 0) ([a, b, c].getD j 0)) 2]? = some b' := e1
      rw [this] at e2
      exact e2
    subst e3
    exact h h' tk t' (F.keeps hold) (N.grown hold)
end
end Mine
end
section
open PySem PySem.W PySem.Calls PyProof.Rows PySem.Flt
set_option linter.unusedSimpArgs false
namespace Mine
noncomputable def feq (a b : UInt64) : Bool := Float64.cmp a b == some Ordering.eq
noncomputable def hueF (r g b : UInt64) : UInt64 :=
  let x := maxOfBits [r, g, b]
  let d := Float64.sub x (minOfBits [r, g, b])
  let rc := Float64.div (Float64.sub x r) d
  let gc := Float64.div (Float64.sub x g) d
  let bc := Float64.div (Float64.sub x b) d
  (Float64.divmod (Float64.div (if (Float64.cmp r x == some Ordering.eq) = true then Float64.sub bc gc else if (Float64.cmp g x == some Ordering.eq) = true then Float64.sub (Float64.add 4611686018427387904 rc) bc else Float64.sub (Float64.add 4616189618054758400 gc) rc) 4618441417868443648) 4607182418800017408).2
noncomputable def hsvF (r g b : UInt64) : UInt64 × UInt64 × UInt64 :=
  let x := maxOfBits [r, g, b]
  let n := minOfBits [r, g, b]
  if (Float64.cmp n x == some Ordering.eq) = true then (0, 0, x) else (hueF r g b, Float64.div (Float64.sub x n) x, x)
/-- no division by nought -/
noncomputable def hsvOk (r g b : UInt64) : Bool :=
  let x := maxOfBits [r, g, b]
  let n := minOfBits [r, g, b]
  (Float64.cmp n x == some Ordering.eq) || (!Float64.isZero x && !Float64.isZero (Float64.sub x n))
theorem pack3 {D : Addr} {news : List (Addr × Obj)} {F : UInt64 × UInt64 × UInt64} {x y z : UInt64} {u1 u2 u3 : Tok} (e : F = (x, y, z)) :
    ((D, ({ cls := .type "tuple", data := .seq #[.float x u1, .float y u2, .float z u3] } : Obj)) :: news : List (Addr × Obj)) = (D, tupO [.float F.1 u1, .float F.2.1 u2, .float F.2.2 u3] 0) :: news := by subst e; rfl
section
variable {r g b : UInt64}
theorem hsv_v0 (h : (Float64.cmp (minOfBits [r, g, b]) (maxOfBits [r, g, b]) == some Ordering.eq) = true) : hsvF r g b = (0, 0, maxOfBits [r, g, b]) := by
  simp only [hsvF, h, if_true]
theorem hsv_v1 (h : (Float64.cmp (minOfBits [r, g, b]) (maxOfBits [r, g, b]) == some Ordering.eq) = false) (h1 : (Float64.cmp r (maxOfBits [r, g, b]) == some Ordering.eq) = true) : hsvF r g b = ((Float64.divmod
                    (Float64.div
                      (Float64.sub
                        (Float64.div (Float64.sub (maxOfBits [r, g, b]) b) (Float64.sub (maxOfBits [r, g, b]) (minOfBits [r, g, b])))
                        (Float64.div (Float64.sub (maxOfBits [r, g, b]) g) (Float64.sub (maxOfBits [r, g, b]) (minOfBits [r, g, b]))))
                      4618441417868443648)
                    4607182418800017408).snd, Float64.div (Float64.sub (maxOfBits [r, g, b]) (minOfBits [r, g, b])) (maxOfBits [r, g, b]), maxOfBits [r, g, b]) := by
  simp only [hsvF, hueF, h, h1, if_true, if_false, Bool.false_eq_true]
theorem hsv_v2 (h : (Float64.cmp (minOfBits [r, g, b]) (maxOfBits [r, g, b]) == some Ordering.eq) = false) (h1 : (Float64.cmp r (maxOfBits [r, g, b]) == some Ordering.eq) = false) (h2 : (Float64.cmp g (maxOfBits [r, g, b]) == some Ordering.eq) = true) : hsvF r g b = ((Float64.divmod
                    (Float64.div
                      (Float64.sub
                        (Float64.add 4611686018427387904 (Float64.div (Float64.sub (maxOfBits [r, g, b]) r) (Float64.sub (maxOfBits [r, g, b]) (minOfBits [r, g, b]))))
                        (Float64.div (Float64.sub (maxOfBits [r, g, b]) b) (Float64.sub (maxOfBits [r, g, b]) (minOfBits [r, g, b]))))
                      4618441417868443648)
                    4607182418800017408).snd, Float64.div (Float64.sub (maxOfBits [r, g, b]) (minOfBits [r, g, b])) (maxOfBits [r, g, b]), maxOfBits [r, g, b]) := by
  simp only [hsvF, hueF, h, h1, h2, if_true, if_false, Bool.false_eq_true]
theorem hsv_v3 (h : (Float64.cmp (minOfBits [r, g, b]) (maxOfBits [r, g, b]) == some Ordering.eq) = false) (h1 : (Float64.cmp r (maxOfBits [r, g, b]) == some Ordering.eq) = false) (h2 : (Float64.cmp g (maxOfBits [r, g, b]) == some Ordering.eq) = false) : hsvF r g b = ((Float64.divmod
                    (Float64.div
                      (Float64.sub
                        (Float64.add 4616189618054758400 (Float64.div (Float64.sub (maxOfBits [r, g, b]) g) (Float64.sub (maxOfBits [r, g, b]) (minOfBits [r, g, b]))))
                        (Float64.div (Float64.sub (maxOfBits [r, g, b]) r) (Float64.sub (maxOfBits [r, g, b]) (minOfBits [r, g, b]))))
                      4618441417868443648)
                    4607182418800017408).snd, Float64.div (Float64.sub (maxOfBits [r, g, b]) (minOfBits [r, g, b])) (maxOfBits [r, g, b]), maxOfBits [r, g, b]) := by
  simp only [hsvF, hueF, h, h1, h2, if_true, if_false, Bool.false_eq_true]
end

noncomputable def hlsF (r g b : UInt64) : UInt64 × UInt64 × UInt64 :=
  if (Float64.cmp (minOfBits [r, g, b]) (maxOfBits [r, g, b]) == some Ordering.eq) = true then (0, (Float64.div (Float64.add (maxOfBits [r, g, b]) (minOfBits [r, g, b])) 4611686018427387904), 0) else (hueF r g b, (Float64.div (Float64.add (maxOfBits [r, g, b]) (minOfBits [r, g, b])) 4611686018427387904), if (Float64.cmp (Float64.div (Float64.add (maxOfBits [r, g, b]) (minOfBits [r, g, b])) 4611686018427387904) 4602678819172646912 == some Ordering.lt || Float64.cmp (Float64.div (Float64.add (maxOfBits [r, g, b]) (minOfBits [r, g, b])) 4611686018427387904) 4602678819172646912 == some Ordering.eq) = true then Float64.div (Float64.sub (maxOfBits [r, g, b]) (minOfBits [r, g, b])) (Float64.add (maxOfBits [r, g, b]) (minOfBits [r, g, b])) else Float64.div (Float64.sub (maxOfBits [r, g, b]) (minOfBits [r, g, b])) (Float64.sub (Float64.sub 4611686018427387904 (maxOfBits [r, g, b])) (minOfBits [r, g, b])))
noncomputable def hlsOk (r g b : UInt64) : Bool := (Float64.cmp (minOfBits [r, g, b]) (maxOfBits [r, g, b]) == some Ordering.eq) || (!Float64.isZero (Float64.sub (maxOfBits [r, g, b]) (minOfBits [r, g, b])) && (if (Float64.cmp (Float64.div (Float64.add (maxOfBits [r, g, b]) (minOfBits [r, g, b])) 4611686018427387904) 4602678819172646912 == some Ordering.lt || Float64.cmp (Float64.div (Float64.add (maxOfBits [r, g, b]) (minOfBits [r, g, b])) 4611686018427387904) 4602678819172646912 == some Ordering.eq) = true then !Float64.isZero (Float64.add (maxOfBits [r, g, b]) (minOfBits [r, g, b])) else !Float64.isZero (Float64.sub (Float64.sub 4611686018427387904 (maxOfBits [r, g, b])) (minOfBits [r, g, b]))))
section
variable {r g b : UInt64}
theorem hls_no1 (h : hlsOk r g b = true) (h1 : (Float64.cmp (minOfBits [r, g, b]) (maxOfBits [r, g, b]) == some Ordering.eq) = false) (h2 : Float64.isZero (Float64.sub (maxOfBits [r, g, b]) (minOfBits [r, g, b])) = true) : False := by
  simp only [hlsOk, h1, h2, Bool.false_or, Bool.not_true, Bool.false_and] at h
  try exact Bool.noConfusion h
theorem hls_no2 (h : hlsOk r g b = true) (h1 : (Float64.cmp (minOfBits [r, g, b]) (maxOfBits [r, g, b]) == some Ordering.eq) = false) (h3 : (Float64.cmp (Float64.div (Float64.add (maxOfBits [r, g, b]) (minOfBits [r, g, b])) 4611686018427387904) 4602678819172646912 == some Ordering.lt || Float64.cmp (Float64.div (Float64.add (maxOfBits [r, g, b]) (minOfBits [r, g, b])) 4611686018427387904) 4602678819172646912 == some Ordering.eq) = true) (h2 : Float64.isZero (Float64.add (maxOfBits [r, g, b]) (minOfBits [r, g, b])) = true) : False := by
  simp only [hlsOk, h1, h2, h3, if_true, Bool.false_or, Bool.not_true, Bool.and_false] at h
  try exact Bool.noConfusion h
theorem hls_no3 (h : hlsOk r g b = true) (h1 : (Float64.cmp (minOfBits [r, g, b]) (maxOfBits [r, g, b]) == some Ordering.eq) = false) (h3 : (Float64.cmp (Float64.div (Float64.add (maxOfBits [r, g, b]) (minOfBits [r, g, b])) 4611686018427387904) 4602678819172646912 == some Ordering.lt || Float64.cmp (Float64.div (Float64.add (maxOfBits [r, g, b]) (minOfBits [r, g, b])) 4611686018427387904) 4602678819172646912 == some Ordering.eq) = false) (h2 : Float64.isZero (Float64.sub (Float64.sub 4611686018427387904 (maxOfBits [r, g, b])) (minOfBits [r, g, b])) = true) : False := by
  simp only [hlsOk, h1, h2, h3, if_false, Bool.false_eq_true, Bool.false_or, Bool.not_true, Bool.and_false] at h
  try exact Bool.noConfusion h
theorem hls_v0 (h : (Float64.cmp (minOfBits [r, g, b]) (maxOfBits [r, g, b]) == some Ordering.eq) = true) : hlsF r g b = (0, (Float64.div (Float64.add (maxOfBits [r, g, b]) (minOfBits [r, g, b])) 4611686018427387904), 0) := by
  simp only [hlsF, h, if_true]
theorem hue_1 (h1 : (Float64.cmp r (maxOfBits [r, g, b]) == some Ordering.eq) = true) : hueF r g b = (Float64.divmod (Float64.div (Float64.sub (Float64.div (Float64.sub (maxOfBits [r, g, b]) b) (Float64.sub (maxOfBits [r, g, b]) (minOfBits [r, g, b]))) (Float64.div (Float64.sub (maxOfBits [r, g, b]) g) (Float64.sub (maxOfBits [r, g, b]) (minOfBits [r, g, b])))) 4618441417868443648) 4607182418800017408).snd := by
  simp only [hueF, h1, if_true, if_false, Bool.false_eq_true]
theorem hue_2 (h1 : (Float64.cmp r (maxOfBits [r, g, b]) == some Ordering.eq) = false) (h2 : (Float64.cmp g (maxOfBits [r, g, b]) == some Ordering.eq) = true) : hueF r g b = (Float64.divmod (Float64.div (Float64.sub (Float64.add 4611686018427387904 (Float64.div (Float64.sub (maxOfBits [r, g, b]) r) (Float64.sub (maxOfBits [r, g, b]) (minOfBits [r, g, b])))) (Float64.div (Float64.sub (maxOfBits [r, g, b]) b) (Float64.sub (maxOfBits [r, g, b]) (minOfBits [r, g, b])))) 4618441417868443648) 4607182418800017408).snd := by
  simp only [hueF, h1, h2, if_true, if_false, Bool.false_eq_true]
theorem hue_3 (h1 : (Float64.cmp r (maxOfBits [r, g, b]) == some Ordering.eq) = false) (h2 : (Float64.cmp g (maxOfBits [r, g, b]) == some Ordering.eq) = false) : hueF r g b = (Float64.divmod (Float64.div (Float64.sub (Float64.add 4616189618054758400 (Float64.div (Float64.sub (maxOfBits [r, g, b]) g) (Float64.sub (maxOfBits [r, g, b]) (minOfBits [r, g, b])))) (Float64.div (Float64.sub (maxOfBits [r, g, b]) r) (Float64.sub (maxOfBits [r, g, b]) (minOfBits [r, g, b])))) 4618441417868443648) 4607182418800017408).snd := by
  simp only [hueF, h1, h2, if_true, if_false, Bool.false_eq_true]
theorem hls_v01 (h : (Float64.cmp (minOfBits [r, g, b]) (maxOfBits [r, g, b]) == some Ordering.eq) = false) (h3 : (Float64.cmp (Float64.div (Float64.add (maxOfBits [r, g, b]) (minOfBits [r, g, b])) 4611686018427387904) 4602678819172646912 == some Ordering.lt || Float64.cmp (Float64.div (Float64.add (maxOfBits [r, g, b]) (minOfBits [r, g, b])) 4611686018427387904) 4602678819172646912 == some Ordering.eq) = true) (h1 : (Float64.cmp r (maxOfBits [r, g, b]) == some Ordering.eq) = true) : hlsF r g b = ((Float64.divmod (Float64.div (Float64.sub (Float64.div (Float64.sub (maxOfBits [r, g, b]) b) (Float64.sub (maxOfBits [r, g, b]) (minOfBits [r, g, b]))) (Float64.div (Float64.sub (maxOfBits [r, g, b]) g) (Float64.sub (maxOfBits [r, g, b]) (minOfBits [r, g, b])))) 4618441417868443648) 4607182418800017408).snd, (Float64.div (Float64.add (maxOfBits [r, g, b]) (minOfBits [r, g, b])) 4611686018427387904), Float64.div (Float64.sub (maxOfBits [r, g, b]) (minOfBits [r, g, b])) (Float64.add (maxOfBits [r, g, b]) (minOfBits [r, g, b]))) := by
  simp only [hlsF, h, h3, hue_1 h1, if_true, if_false, Bool.false_eq_true]
theorem hls_v02 (h : (Float64.cmp (minOfBits [r, g, b]) (maxOfBits [r, g, b]) == some Ordering.eq) = false) (h3 : (Float64.cmp (Float64.div (Float64.add (maxOfBits [r, g, b]) (minOfBits [r, g, b])) 4611686018427387904) 4602678819172646912 == some Ordering.lt || Float64.cmp (Float64.div (Float64.add (maxOfBits [r, g, b]) (minOfBits [r, g, b])) 4611686018427387904) 4602678819172646912 == some Ordering.eq) = true) (h1 : (Float64.cmp r (maxOfBits [r, g, b]) == some Ordering.eq) = false) (h2 : (Float64.cmp g (maxOfBits [r, g, b]) == some Ordering.eq) = true) : hlsF r g b = ((Float64.divmod (Float64.div (Float64.sub (Float64.add 4611686018427387904 (Float64.div (Float64.sub (maxOfBits [r, g, b]) r) (Float64.sub (maxOfBits [r, g, b]) (minOfBits [r, g, b])))) (Float64.div (Float64.sub (maxOfBits [r, g, b]) b) (Float64.sub (maxOfBits [r, g, b]) (minOfBits [r, g, b])))) 4618441417868443648) 4607182418800017408).snd, (Float64.div (Float64.add (maxOfBits [r, g, b]) (minOfBits [r, g, b])) 4611686018427387904), Float64.div (Float64.sub (maxOfBits [r, g, b]) (minOfBits [r, g, b])) (Float64.add (maxOfBits [r, g, b]) (minOfBits [r, g, b]))) := by
  simp only [hlsF, h, h3, hue_2 h1 h2, if_true, if_false, Bool.false_eq_true]
theorem hls_v03 (h : (Float64.cmp (minOfBits [r, g, b]) (maxOfBits [r, g, b]) == some Ordering.eq) = false) (h3 : (Float64.cmp (Float64.div (Float64.add (maxOfBits [r, g, b]) (minOfBits [r, g, b])) 4611686018427387904) 4602678819172646912 == some Ordering.lt || Float64.cmp (Float64.div (Float64.add (maxOfBits [r, g, b]) (minOfBits [r, g, b])) 4611686018427387904) 4602678819172646912 == some Ordering.eq) = true) (h1 : (Float64.cmp r (maxOfBits [r, g, b]) == some Ordering.eq) = false) (h2 : (Float64.cmp g (maxOfBits [r, g, b]) == some Ordering.eq) = false) : hlsF r g b = ((Float64.divmod (Float64.div (Float64.sub (Float64.add 4616189618054758400 (Float64.div (Float64.sub (maxOfBits [r, g, b]) g) (Float64.sub (maxOfBits [r, g, b]) (minOfBits [r, g, b])))) (Float64.div (Float64.sub (maxOfBits [r, g, b]) r) (Float64.sub (maxOfBits [r, g, b]) (minOfBits [r, g, b])))) 4618441417868443648) 4607182418800017408).snd, (Float64.div (Float64.add (maxOfBits [r, g, b]) (minOfBits [r, g, b])) 4611686018427387904), Float64.div (Float64.sub (maxOfBits [r, g, b]) (minOfBits [r, g, b])) (Float64.add (maxOfBits [r, g, b]) (minOfBits [r, g, b]))) := by
  simp only [hlsF, h, h3, hue_3 h1 h2, if_true, if_false, Bool.false_eq_true]
theorem hls_v11 (h : (Float64.cmp (minOfBits [r, g, b]) (maxOfBits [r, g, b]) == some Ordering.eq) = false) (h3 : (Float64.cmp (Float64.div (Float64.add (maxOfBits [r, g, b]) (minOfBits [r, g, b])) 4611686018427387904) 4602678819172646912 == some Ordering.lt || Float64.cmp (Float64.div (Float64.add (maxOfBits [r, g, b]) (minOfBits [r, g, b])) 4611686018427387904) 4602678819172646912 == some Ordering.eq) = false) (h1 : (Float64.cmp r (maxOfBits [r, g, b]) == some Ordering.eq) = true) : hlsF r g b = ((Float64.divmod (Float64.div (Float64.sub (Float64.div (Float64.sub (maxOfBits [r, g, b]) b) (Float64.sub (maxOfBits [r, g, b]) (minOfBits [r, g, b]))) (Float64.div (Float64.sub (maxOfBits [r, g, b]) g) (Float64.sub (maxOfBits [r, g, b]) (minOfBits [r, g, b])))) 4618441417868443648) 4607182418800017408).snd, (Float64.div (Float64.add (maxOfBits [r, g, b]) (minOfBits [r, g, b])) 4611686018427387904), Float64.div (Float64.sub (maxOfBits [r, g, b]) (minOfBits [r, g, b])) (Float64.sub (Float64.sub 4611686018427387904 (maxOfBits [r, g, b])) (minOfBits [r, g, b]))) := by
  simp only [hlsF, h, h3, hue_1 h1, if_true, if_false, Bool.false_eq_true]
theorem hls_v12 (h : (Float64.cmp (minOfBits [r, g, b]) (maxOfBits [r, g, b]) == some Ordering.eq) = false) (h3 : (Float64.cmp (Float64.div (Float64.add (maxOfBits [r, g, b]) (minOfBits [r, g, b])) 4611686018427387904) 4602678819172646912 == some Ordering.lt || Float64.cmp (Float64.div (Float64.add (maxOfBits [r, g, b]) (minOfBits [r, g, b])) 4611686018427387904) 4602678819172646912 == some Ordering.eq) = false) (h1 : (Float64.cmp r (maxOfBits [r, g, b]) == some Ordering.eq) = false) (h2 : (Float64.cmp g (maxOfBits [r, g, b]) == some Ordering.eq) = true) : hlsF r g b = ((Float64.divmod (Float64.div (Float64.sub (Float64.add 4611686018427387904 (Float64.div (Float64.sub (maxOfBits [r, g, b]) r) (Float64.sub (maxOfBits [r, g, b]) (minOfBits [r, g, b])))) (Float64.div (Float64.sub (maxOfBits [r, g, b]) b) (Float64.sub (maxOfBits [r, g, b]) (minOfBits [r, g, b])))) 4618441417868443648) 4607182418800017408).snd, (Float64.div (Float64.add (maxOfBits [r, g, b]) (minOfBits [r, g, b])) 4611686018427387904), Float64.div (Float64.sub (maxOfBits [r, g, b]) (minOfBits [r, g, b])) (Float64.sub (Float64.sub 4611686018427387904 (maxOfBits [r, g, b])) (minOfBits [r, g, b]))) := by
  simp only [hlsF, h, h3, hue_2 h1 h2, if_true, if_false, Bool.false_eq_true]
theorem hls_v13 (h : (Float64.cmp (minOfBits [r, g, b]) (maxOfBits [r, g, b]) == some Ordering.eq) = false) (h3 : (Float64.cmp (Float64.div (Float64.add (maxOfBits [r, g, b]) (minOfBits [r, g, b])) 4611686018427387904) 4602678819172646912 == some Ordering.lt || Float64.cmp (Float64.div (Float64.add (maxOfBits [r, g, b]) (minOfBits [r, g, b])) 4611686018427387904) 4602678819172646912 == some Ordering.eq) = false) (h1 : (Float64.cmp r (maxOfBits [r, g, b]) == some Ordering.eq) = false) (h2 : (Float64.cmp g (maxOfBits [r, g, b]) == some Ordering.eq) = false) : hlsF r g b = ((Float64.divmod (Float64.div (Float64.sub (Float64.add 4616189618054758400 (Float64.div (Float64.sub (maxOfBits [r, g, b]) g) (Float64.sub (maxOfBits [r, g, b]) (minOfBits [r, g, b])))) (Float64.div (Float64.sub (maxOfBits [r, g, b]) r) (Float64.sub (maxOfBits [r, g, b]) (minOfBits [r, g, b])))) 4618441417868443648) 4607182418800017408).snd, (Float64.div (Float64.add (maxOfBits [r, g, b]) (minOfBits [r, g, b])) 4611686018427387904), Float64.div (Float64.sub (maxOfBits [r, g, b]) (minOfBits [r, g, b])) (Float64.sub (Float64.sub 4611686018427387904 (maxOfBits [r, g, b])) (minOfBits [r, g, b]))) := by
  simp only [hlsF, h, h3, hue_3 h1 h2, if_true, if_false, Bool.false_eq_true]
end
end Mine
end
section
open PySem PySem.W PySem.Calls PyProof.Rows PySem.Flt
namespace Mine
theorem fillF4 : (PySem.Challenge.rw_ty0055_01, Mine.hd.heap_1) = (PySem.Challenge.rw_ty0055_01, Mine.hd.heap_1) := by
  k_fill
  rfl
local macro_rules | `(tactic| walk_at "call builtin:max") => `(tactic| ((with_reducible show wpAny _ _ (call _ [Value.float _ _, Value.float _ _, Value.float _ _]) _ _ _); (rename News _ _ _ _ => N'); (rename Fr _ _ _ _ => F'); refine max3f rfl F' N' ?_; clear N' F'; intro hX tX kX F' N'))
local macro_rules | `(tactic| walk_at "call builtin:min") => `(tactic| ((with_reducible show wpAny _ _ (call _ [Value.float _ _, Value.float _ _, Value.float _ _]) _ _ _); (rename News _ _ _ _ => N'); (rename Fr _ _ _ _ => F'); refine min3f rfl F' N' ?_; clear N' F'; intro hX tX kX F' N'))


theorem hsv_no1 {r g b : UInt64} (h : hsvOk r g b = true) (h1 : (Float64.cmp (minOfBits [r, g, b]) (maxOfBits [r, g, b]) == some Ordering.eq) = false) (h2 : Float64.isZero (maxOfBits [r, g, b]) = true) : False := by simp [hsvOk, h1, h2] at h
theorem hsv_no2 {r g b : UInt64} (h : hsvOk r g b = true) (h1 : (Float64.cmp (minOfBits [r, g, b]) (maxOfBits [r, g, b]) == some Ordering.eq) = false) (h2 : Float64.isZero (Float64.sub (maxOfBits [r, g, b]) (minOfBits [r, g, b])) = true) : False := by simp [hsvOk, h1, h2] at h
set_option maxRecDepth 100000 in
set_option maxHeartbeats 0 in
set_option pp.maxSteps 100000 in
theorem hsv_spec (w : World) (b1 b2 b3 : UInt64) (t1 t2 t3 : Tok) (news : List (Addr × Obj)) (hok : hsvOk b1 b2 b3 = true) :
   CallSpec 2 w 96 [.float b1 t1, .float b2 t2, .float b3 t3] [] news (fun v nw => ∃ D u1 u2 u3, v = .ref D ∧ nw = (D, tupO [.float (hsvF b1 b2 b3).1 u1, .float (hsvF b1 b2 b3).2.1 u2, .float (hsvF b1 b2 b3).2.2 u3] 0) :: news ∧ ∀ p ∈ news, p.1 < D) := by
  intro mean loose mg mb dp un gd cn cs a ccd cl outer A₀ base h₀ L m s Q E B F KX N T hk hdp hun hret
  w_on
  dsimp only [PG, KG, VG, S] at *
  with_reducible (k_here; (with_reducible show wpAny _ (ktrTop _ _ _ _ _ _ _ _ _ _) _ _ _ _); (refine wpAny_call ?_); (k_dflt cell_enter))
  k_steps
  all_goals first
    | exact (hsv_no1 hok (by assumption) (by assumption)).elim
    | exact (hsv_no2 hok (by assumption) (by assumption)).elim
    | skip
  all_goals
    (rename Fr _ _ _ _ => F2
     rename News _ _ _ _ => N2
     rename (∀ p ∈ news, p.1 < _) => l2
     refine hret _ _ _ _ ⟨_, _, _, _, rfl, pack3 (F := hsvF b1 b2 b3) ?_, l2⟩ F2 N2)
  · exact hsv_v0 (by assumption)
  · exact hsv_v1 (by assumption) (by assumption)
  · exact hsv_v2 (by assumption) (by assumption) (by assumption)
  · exact hsv_v3 (by assumption) (by assumption) (by assumption)
end Mine
end
section
open PySem PySem.W PySem.Calls PyProof.Rows PySem.Flt
namespace Mine
local macro_rules | `(tactic| walk_at "one more line") => `(tactic| skip)
theorem fillF5 : (PySem.Challenge.rw_ty0055_01, Mine.hd.heap_1) = (PySem.Challenge.rw_ty0055_01, Mine.hd.heap_1) := by
  k_fill
  rfl
local macro_rules | `(tactic| walk_at "call builtin:max") => `(tactic| ((with_reducible show wpAny _ _ (call _ [Value.float _ _, Value.float _ _, Value.float _ _]) _ _ _); (rename News _ _ _ _ => N'); (rename Fr _ _ _ _ => F'); refine max3f rfl F' N' ?_; clear N' F'; intro hX tX kX F' N'))
local macro_rules | `(tactic| walk_at "call builtin:min") => `(tactic| ((with_reducible show wpAny _ _ (call _ [Value.float _ _, Value.float _ _, Value.float _ _]) _ _ _); (rename News _ _ _ _ => N'); (rename Fr _ _ _ _ => F'); refine min3f rfl F' N' ?_; clear N' F'; intro hX tX kX F' N'))



set_option maxRecDepth 100000 in
set_option maxHeartbeats 0 in
set_option pp.maxSteps 100000 in
theorem hls_spec (w : World) (b1 b2 b3 : UInt64) (t1 t2 t3 : Tok) (news : List (Addr × Obj)) (hok : hlsOk b1 b2 b3 = true) :
   CallSpec 2 w 89 [.float b1 t1, .float b2 t2, .float b3 t3] [] news (fun v nw => ∃ D u1 u2 u3, v = .ref D ∧ nw = (D, tupO [.float (hlsF b1 b2 b3).1 u1, .float (hlsF b1 b2 b3).2.1 u2, .float (hlsF b1 b2 b3).2.2 u3] 0) :: news ∧ ∀ p ∈ news, p.1 < D) := by
  intro mean loose mg mb dp un gd cn cs a ccd cl outer A₀ base h₀ L m s Q E B F KX N T hk hdp hun hret
  w_on
  dsimp only [PG, KG, VG, S] at *
  with_reducible (k_here; (with_reducible show wpAny _ (ktrTop _ _ _ _ _ _ _ _ _ _) _ _ _ _); (refine wpAny_call ?_); (k_dflt cell_enter))
  k_steps
  all_goals first
    | exact (hls_no1 hok (by assumption) (by assumption)).elim
    | exact (hls_no2 hok (by assumption) (by assumption) (by assumption)).elim
    | exact (hls_no3 hok (by assumption) (by assumption) (by assumption)).elim
    | skip
  all_goals
    (rename Fr _ _ _ _ => F2
     rename News _ _ _ _ => N2
     rename (∀ p ∈ news, p.1 < _) => l2
     refine hret _ _ _ _ ⟨_, _, _, _, rfl, pack3 (F := hlsF b1 b2 b3) ?_, l2⟩ F2 N2)
  · exact hls_v0 (by assumption)
  · exact hls_v01 (by assumption) (by assumption) (by assumption)
  · exact hls_v02 (by assumption) (by assumption) (by assumption) (by assumption)
  · exact hls_v03 (by assumption) (by assumption) (by assumption) (by assumption)
  · exact hls_v11 (by assumption) (by assumption) (by assumption)
  · exact hls_v12 (by assumption) (by assumption) (by assumption) (by assumption)
  · exact hls_v13 (by assumption) (by assumption) (by assumption) (by assumption)
end Mine
end
section
open PySem PySem.W PySem.Calls PyProof.Rows
namespace Mine
theorem fillF6 : (PySem.Challenge.rw_ty0055_01, Mine.hd.heap_1) = (PySem.Challenge.rw_ty0055_01, Mine.hd.heap_1) := by
  k_fill
  rfl

section
variable {a b c M : Int} {ta tb tc : Tok}
theorem kf3_0 (h1 : a = M) : kf_at M [.int a ta, .int b tb, .int c tc] = some 0 := by subst h1; simp [kf_at, isInt]
theorem kf3_1 (h1 : ¬ a = M) (h2 : b = M) : kf_at M [.int a ta, .int b tb, .int c tc] = some 1 := by
  subst h2
  have e : (a == b) = false := by simp [h1]
  simp [kf_at, isInt, e]
theorem kf3_2 (h1 : ¬ a = M) (h2 : ¬ b = M) (h3 : c = M) : kf_at M [.int a ta, .int b tb, .int c tc] = some 2 := by
  subst h3
  have e : (a == c) = false := by simp [h1]
  have e2 : (b == c) = false := by simp [h2]
  simp [kf_at, isInt, e, e2]
end
noncomputable def sixthF (a b c : Int) : Int := if a = b ∧ b = c then 0 else if a ≤ b ∧ a ≤ c then 3 else if b ≤ c then 5 else 1
set_option maxRecDepth 100000 in
set_option maxHeartbeats 0 in
set_option pp.maxSteps 100000 in
theorem sixth_spec (w : World) (ll : Addr) (a b c : Int) (ta tb tc : Tok) (rest : List (Addr × Obj)) :
   CallSpec 2 w 266 [.ref ll] [] ((ll, W.listOf #[.int a ta, .int b tb, .int c tc] 0) :: rest) (fun v nw => (∃ t, v = .int (sixthF a b c) t) ∧ nw = (ll, W.listOf #[.int a ta, .int b tb, .int c tc] 0) :: rest) := by
  intro mean loose mg mb dp un gd cn cs a' ccd cl outer A₀ base h₀ L m s Q E B F KX N T hk hdp hun hret
  w_on
  dsimp only [PG, KG, VG, S] at *
  with_reducible (k_here; (with_reducible show wpAny _ (ktrTop _ _ _ _ _ _ _ _ _ _) _ _ _ _); (refine wpAny_call ?_); (k_dflt cell_enter))
  k_steps
  · rename Fr _ _ _ _ => F2
    rename News _ _ _ _ => N2
    refine hret _ _ _ _ ⟨⟨_, int_is (by rw [sixthF, if_pos (by omega)])⟩, rfl⟩ F2 N2
  · rename News _ _ _ _ => N2
    rename (_ = a ∨ _ = b ∨ _ = c) => hM
    rename (_ ≤ a ∧ _ ≤ b ∧ _ ≤ c) => hm
    rename Int => M
    by_cases h1 : a = M
    · refine kf_index (j := 0) N2 (.tail _ (.head _)) rfl (kf3_0 h1) rfl (by show 3 ≤ sizeLine; rw [sizeLine_eq]; decide) ?_
      refine item_any (v := .int 3 _) (News_isList N2 (.head _)) (by decide) (by decide) rfl ?_
      k_steps
      rename Fr _ _ _ _ => F2
      rename News _ _ _ _ => N2
      refine hret _ _ _ _ ⟨⟨_, int_is (by rw [sixthF, if_neg (by omega), if_pos (by omega)])⟩, rfl⟩ F2 (News_tail N2)
    · by_cases h2 : b = M
      · refine kf_index (j := 1) N2 (.tail _ (.head _)) rfl (kf3_1 h1 h2) rfl (by show 3 ≤ sizeLine; rw [sizeLine_eq]; decide) ?_
        refine item_any (v := .int 5 _) (News_isList N2 (.head _)) (by decide) (by decide) rfl ?_
        k_steps
        rename Fr _ _ _ _ => F2
        rename News _ _ _ _ => N2
        refine hret _ _ _ _ ⟨⟨_, int_is (by rw [sixthF, if_neg (by omega), if_neg (by omega), if_pos (by omega)])⟩, rfl⟩ F2 (News_tail N2)
      · have h3 : c = M := by omega
        refine kf_index (j := 2) N2 (.tail _ (.head _)) rfl (kf3_2 h1 h2 h3) rfl (by show 3 ≤ sizeLine; rw [sizeLine_eq]; decide) ?_
        refine item_any (v := .int 1 _) (News_isList N2 (.head _)) (by decide) (by decide) rfl ?_
        k_steps
        rename Fr _ _ _ _ => F2
        rename News _ _ _ _ => N2
        refine hret _ _ _ _ ⟨⟨_, int_is (by rw [sixthF, if_neg (by omega), if_neg (by omega), if_neg (by omega)])⟩, rfl⟩ F2 (News_tail N2)
end Mine
end
section
open PySem PySem.W PySem.Calls PyProof.Rows PySem.Spec
namespace Mine
/-- a turn's end: the walker's own object stands as it stood, the rest as the word says -/
noncomputable def TurnU (h₀ : Heap) (L I : Addr) (o : Obj) (Jn : (Str → Option Value) → List (Addr × Obj) → Prop) (s₁ : Shared) (f : Flow) (s₂ : Shared) : Prop :=
  f = .next ∧ ∃ h' tk m' nw, s₂ = { s₁ with heap := h', toks := tk } ∧ Fr h₀ L h' m' ∧ News h₀ L h' ((I, o) :: nw) ∧ (∀ p ∈ nw, p.1 ≠ I) ∧ Jn m' nw
theorem TurnU.intro {h₀ : Heap} {L I : Addr} {o : Obj} {Jn : (Str → Option Value) → List (Addr × Obj) → Prop} {s₁ : Shared} {h' : Heap} {tk : Nat} {m' : Str → Option Value} {nw : List (Addr × Obj)}
    (F : Fr h₀ L h' m') (N : News h₀ L h' ((I, o) :: nw)) (hI : ∀ p ∈ nw, p.1 ≠ I) (hJ : Jn m' nw) : TurnU h₀ L I o Jn s₁ .next { s₁ with heap := h', toks := tk } := ⟨rfl, h', tk, m', nw, rfl, F, N, hI, hJ⟩
end Mine
end
section
open PySem PySem.W PySem.Calls PyProof.Rows PySem.Spec
namespace Mine
/-- a turn's end that may leave by a return -/
noncomputable def TurnR (h₀ : Heap) (L I : Addr) (o : Obj) (Jn : (Str → Option Value) → List (Addr × Obj) → Prop) (s₁ : Shared) (Qr : Value → Shared → Prop) (f : Flow) (s₂ : Shared) : Prop :=
  match f with
  | .ret v => Qr v s₂
  | f => TurnU h₀ L I o Jn s₁ f s₂
section
variable {prog : Program} {w : World} {A : Around} {s : Shared} {env : Env} {h₀ : Heap} {E : Value → Shared → Prop} {target : Expr} {body : List Stmt}
/-- the loop over any walker: what it reads beside itself stands in the ledger and stays -/
theorem code_walk {R : Result → Shared → Prop} {I : Addr} {fp : List Addr} {n : Nat} {P : Nat → Value → Prop} {St : Nat → Heap → Prop} {m : Str → Option Value} {news : List (Addr × Obj)} (ob : Addr → Obj)
    (W : Walks prog w A I fp [I] n P St) (hI : h₀.get? I = none) (hIL : env.locals ≠ I) (hn : ∀ p ∈ news, p.1 ≠ I) (hSt : ∀ i h, St i h → ∃ o, h.get? I = some o) (hst : St 0 s.heap) (F : Fr h₀ env.locals s.heap m) (N : News h₀ env.locals s.heap news)
    (hgo : ∀ i (s' : Shared) v (Q' : Unit → Shared → Prop), St i s'.heap → Q' () s' → wpAny (model prog w) A (letOwnedTupleGo target (.ref I) v) Q' (notedBy (model prog w) A env fun e s' => R (.error e) s') s')
    (J : Nat → (Str → Option Value) → List (Addr × Obj) → Prop) (hJo : ∀ i m₁ nw, J i m₁ nw → ∀ b ∈ fp, b ≠ I → (b, ob b) ∈ nw) (h0 : J 0 m news)
    (turn : ∀ i v m₁ nw s₁ o, i < n → P i v → J i m₁ nw → (∀ p ∈ nw, p.1 ≠ I) → Fr h₀ env.locals s₁.heap m₁ → News h₀ env.locals s₁.heap ((I, o) :: nw) → (∃ h tk, s₁ = { s with heap := h, toks := tk }) →
      wpAny (model prog w) A (assign target env v) (fun _ s₂ => wpAny (model prog w) A (execs body env) (TurnR h₀ env.locals I o (J (i + 1)) s₁ fun v s' => R (.ok (.ret v)) s') (notedBy (model prog w) A env fun e s' => R (.error e) s') s₂) (notedBy (model prog w) A env fun e s' => R (.error e) s') s₁)
    (done : ∀ h' tk m' nw, Fr h₀ env.locals h' m' → News h₀ env.locals h' nw → J n m' nw → R (.ok .next) { s with heap := h', toks := tk }) :
    codeAny (model prog w) A (.forLoop target (.ref I) body [] env) R s := by
  refine codeAny_forLoop_any
    (fun k s' => ∃ h' tk m' nw i, s' = { s with heap := h', toks := tk } ∧ St i h' ∧ Fr h₀ env.locals h' m' ∧ News h₀ env.locals h' nw ∧ (∀ p ∈ nw, p.1 ≠ I) ∧ J i m' nw ∧ i ≤ n ∧ k = n + 1 - i) ?_ (n + 1)
    ⟨s.heap, s.toks, m, news, 0, rfl, hst, F, N, hn, h0, Nat.zero_le _, rfl⟩
  rintro k s' ⟨h', tk, m', nw, i, rfl, hst', F', N', hnw, hJ, hi, rfl⟩
  have next : ∀ h₁ : Heap, (∀ b o, b ∉ [I] → h'.get? b = some o → h₁.get? b = some o) → Fr h₀ env.locals h₁ m' ∧ News h₀ env.locals h₁ nw := fun h₁ hk =>
    ⟨⟨F'.ns.at' fun o e => hk _ o (fun q => hIL (List.mem_singleton.mp q)) e, fun b o e => hk b o (fun q => by rw [List.mem_singleton.mp q, hI] at e; cases e) (F'.keep b o e), F'.above⟩,
     fun p hp => ⟨hk _ _ (fun q => hnw p hp (List.mem_singleton.mp q)) (N' p hp).1, (N' p hp).2⟩⟩
  by_cases hlt : i < n
  · refine W.item i _ _ _ hlt hst' fun v h₁ tk₁ hP hst₁ hk₁ => ?_
    obtain ⟨F₁, N₁⟩ := next h₁ hk₁
    obtain ⟨o, ho⟩ := hSt _ _ hst₁
    have N₂ : News h₀ env.locals h₁ ((I, o) :: nw) := fun p hp => by
      rcases List.mem_cons.mp hp with rfl | hp
      · exact ⟨ho, fun q => hIL q.symm, hI⟩
      · exact N₁ _ hp
    refine hgo (i + 1) _ v _ hst₁ ?_
    refine wpAny_mono (turn i v m' nw { s with heap := h₁, toks := tk₁ } o hlt hP hJ hnw F₁ N₂ ⟨_, _, rfl⟩) (fun _ s₂ h₂ => wpAny_mono h₂ (fun f s₃ h₃ => ?_) fun _ _ e => e) fun _ _ e => e
    have fin : ∀ f, TurnU h₀ env.locals I o (J (i + 1)) { s with heap := h₁, toks := tk₁ } f s₃ → ∃ k', k' < n + 1 - i ∧ ∃ h' tk m' nw i, s₃ = { s with heap := h', toks := tk } ∧ St i h' ∧ Fr h₀ env.locals h' m' ∧ News h₀ env.locals h' nw ∧ (∀ p ∈ nw, p.1 ≠ I) ∧ J i m' nw ∧ i ≤ n ∧ k' = n + 1 - i := by
      rintro f ⟨rfl, h₃', tk₃, m₃, nw₃, rfl, F₃, N₃, hne₃, hJ₃⟩
      refine ⟨n + 1 - (i + 1), by omega, h₃', tk₃, m₃, nw₃, i + 1, rfl, ?_, F₃, News_tail N₃, hne₃, hJ₃, hlt, rfl⟩
      refine W.frame _ _ _ hst₁ fun b hb o' e => ?_
      by_cases hbI : b = I
      · subst hbI
        rw [ho] at e
        rw [← Option.some.inj e]
        exact (N₃ _ (.head _)).1
      · have h1 := (N₁ _ (hJo _ _ _ hJ b hb hbI)).1
        rw [h1] at e
        rw [← Option.some.inj e]
        exact (N₃ _ (.tail _ (hJo _ _ _ hJ₃ b hb hbI))).1
    cases f with
    | ret v => exact h₃
    | next => exact fin _ h₃
    | cont => exact fin _ h₃
    | brk => exact absurd h₃.1 (by simp)
  · have hin : i = n := by omega
    subst hin
    refine W.done _ _ _ hst' fun h₁ tk₁ hk₁ => wpAny_execs_nil ?_
    obtain ⟨F₁, N₁⟩ := next h₁ hk₁
    exact done h₁ tk₁ m' nw F₁ N₁ hJ
/-- what is to be shown of a loop over a list of the ledger -/
noncomputable def ListLoop (prog : Program) (w : World) (A : Around) (h₀ : Heap) (env : Env) (target : Expr) (body : List Stmt) (Q : Flow → Shared → Prop) (E : Value → Shared → Prop) (xv : Value) (s₁ : Shared) : Prop :=
  ∃ (l : Addr) (vs : List Value) (ep : Nat) (m : Str → Option Value) (news : List (Addr × Obj)) (J : Nat → (Str → Option Value) → List (Addr × Obj) → Prop),
    xv = .ref l ∧ (l, PySem.W.listOf vs.toArray ep) ∈ news ∧ (∀ i m₁ nw, J i m₁ nw → (l, PySem.W.listOf vs.toArray ep) ∈ nw) ∧ Fr h₀ env.locals s₁.heap m ∧ News h₀ env.locals s₁.heap news ∧ J 0 m news ∧
    (∀ i v m₁ nw h tk I o, vs[i]? = some v → J i m₁ nw → (∀ p ∈ nw, p.1 ≠ I) → Fr h₀ env.locals h m₁ → News h₀ env.locals h ((I, o) :: nw) →
      wpAny (model prog w) A (assign target env v) (fun _ s₃ => wpAny (model prog w) A (execs body env) (TurnR h₀ env.locals I o (J (i + 1)) { s₁ with heap := h, toks := tk } fun v s' => Q (.ret v) s') E s₃) E { s₁ with heap := h, toks := tk }) ∧
    ∀ h' tk m' nw, Fr h₀ env.locals h' m' → News h₀ env.locals h' nw → J vs.length m' nw → Q .next { s₁ with heap := h', toks := tk }
theorem ListLoop.mk {prog : Program} {w : World} {A : Around} {h₀ : Heap} {env : Env} {target : Expr} {body : List Stmt} {Q : Flow → Shared → Prop} {E : Value → Shared → Prop} {xv : Value} {s₁ : Shared} (l : Addr) (vs : List Value) (ep : Nat) (m : Str → Option Value) (news : List (Addr × Obj)) (J : Nat → (Str → Option Value) → List (Addr × Obj) → Prop) (a0 : xv = .ref l) (a1 : (l, PySem.W.listOf vs.toArray ep) ∈ news) (a2 : (∀ i m₁ nw, J i m₁ nw → (l, PySem.W.listOf vs.toArray ep) ∈ nw)) (a3 : Fr h₀ env.locals s₁.heap m) (a4 : News h₀ env.locals s₁.heap news) (a5 : J 0 m news) (a6 : (∀ i v m₁ nw h tk I o, vs[i]? = some v → J i m₁ nw → (∀ p ∈ nw, p.1 ≠ I) → Fr h₀ env.locals h m₁ → News h₀ env.locals h ((I, o) :: nw) →
      wpAny (model prog w) A (assign target env v) (fun _ s₃ => wpAny (model prog w) A (execs body env) (TurnR h₀ env.locals I o (J (i + 1)) { s₁ with heap := h, toks := tk } fun v s' => Q (.ret v) s') E s₃) E { s₁ with heap := h, toks := tk })) (a7 : ∀ h' tk m' nw, Fr h₀ env.locals h' m' → News h₀ env.locals h' nw → J vs.length m' nw → Q .next { s₁ with heap := h', toks := tk }) : ListLoop prog w A h₀ env target body Q E xv s₁ := ⟨l, vs, ep, m, news, J, a0, a1, a2, a3, a4, a5, a6, a7⟩
/-- a loop over a list of the ledger -/
theorem For_list {Q : Flow → Shared → Prop} {iter : Expr} {pos : Pos} {m₀ : Str → Option Value} (_F : Fr h₀ env.locals s.heap m₀) (hh : A.handled = none) (hs : ∀ x, foldedSetIterable iter env x = pure x) (hE : PassesOwn (model prog w) A env E)
    (he : wpAny (model prog w) A (eval iter env) (ListLoop prog w A h₀ env target body Q E) E s) :
    wpAny (model prog w) A (exec (.For target iter body [] pos) env) Q E s := by
  refine wpAny_For (wpAny_mono he (fun xv s₁ h₁ => ?_) fun _ _ e => e) hs
  obtain ⟨l, vs, ep, m, news, J, rfl, hm, hJl, F, N, h0, turn, done⟩ := h₁
  have hls : s₁.heap.IsList l vs.toArray := News_isList N hm
  have hlt : l < s₁.heap.objs.size := Heap.lt_size (N _ hm).1
  refine wpAny_pyIter_list hls ?_
  have W := Walks.list (prog := prog) (w := w) hh s₁.heap.objs.size l (Nat.ne_of_lt hlt) vs.toArray
  have hlen : vs.toArray.size = vs.length := List.size_toArray ..
  rw [hlen] at W
  refine code_walk (h₀ := h₀) (R := fun r s' => match r with | .ok f => Q f s' | .error e => cameBackBy (model prog w) A env E e s') (fun _ => PySem.W.listOf vs.toArray ep) W (next_is_new F) (Nat.ne_of_lt F.ns.lt) (fun p hp => Nat.ne_of_lt (Heap.lt_size (N p hp).1)) ?_ ?_ (F.push _) ?_ ?_ J ?_ h0 ?_ ?_
  · rintro i h ⟨⟨o, ho, _⟩, _⟩; exact ⟨o, ho⟩
  · exact ⟨⟨_, Heap.get?_push_size _ rfl, rfl, rfl⟩, hls.at fun o e => Heap.get?_push_of_some _ e⟩
  · exact fun p hp => ⟨Heap.get?_push_of_some _ (N p hp).1, (N p hp).2⟩
  · exact fun i s' v Q' st hq => wpAny_passesOwn hE (letGo_listiter st.1 hq)
  · intro i m₁ nw hJ b hb hbI
    rcases List.mem_cons.mp hb with e | hb
    · exact absurd e hbI
    · rw [List.mem_singleton.mp hb]; exact hJl _ _ _ hJ
  · rintro i v m₁ nw s₂ o hi hP hJ hne F₁ N₁ ⟨h, tk, rfl⟩
    exact wpAny_mono (turn i v m₁ nw h tk _ o (by simpa using hP) hJ hne F₁ N₁) (fun _ _ x => wpAny_passesOwn hE x) hE
  · exact done
end
end Mine
end
section
open PySem PySem.W PySem.Calls PyProof.Rows PySem.Spec
namespace Mine
noncomputable abbrev testsOf (ifs : List PySem.Expr) (cenv : Env) : Sem Bool := forIn ifs true fun c r => if r = true then do let ok ← isTrue c cenv (eval c cenv); pure (ForInStep.yield ok) else pure (ForInStep.yield r)
/-- one turn of a comprehension's loop -/
noncomputable def turnOf (t : PySem.Expr) (ipos : Pos) (ifs : List PySem.Expr) (it : Value) (env : Env) (emit : Sem Unit) (c : Code) : Sem PySem.Fin := do
  standAt ipos
  match ← pyNext it with
  | none => pure (.done .next)
  | some v =>
    letOwnedTupleGo t it v
    assign t env v
    let mut ok := true
    for c in ifs do
      if ok then ok ← isTrue c env (eval c env)
    if ok then emit
    again c
section
variable {prog : Program} {w : World} {A : Around} {E : Value → Shared → Prop} {s : Shared} {h₀ : Heap} {L : Addr} {m : Str → Option Value} {env : Env}
theorem loop_gen {elt : PySem.Expr} {gens : List Comprehension} {scope : Scope} {pos : Pos} {d : Nat} {t : PySem.Expr} {ipos : Pos} {ifs : List PySem.Expr} {it acc : Value} {cenv : Env} {emit : Sem Unit} {R : Result → Shared → Prop} (I : Nat → Shared → Prop)
    (hT : compTurn (.ListComp elt gens scope pos) d it acc cenv = turnOf t ipos ifs it cenv emit (.compLoop (.ListComp elt gens scope pos) d it acc cenv))
    (turn : ∀ n s, I n s → wpAny (model prog w) A (pyNext it) (fun r s₁ => match r with
      | none => R (.ok .next) s₁
      | some v => wpAny (model prog w) A (assign t cenv v) (fun _ s₂ =>
          wpAny (model prog w) A (testsOf ifs cenv) (fun ok s₃ =>
            if ok = true then wpAny (model prog w) A emit (fun _ s₅ => ∃ m, m < n ∧ I m s₅) (notedBy (model prog w) A cenv fun e s' => R (.error e) s') s₃
            else ∃ m, m < n ∧ I m s₃) (notedBy (model prog w) A cenv fun e s' => R (.error e) s') s₂) (notedBy (model prog w) A cenv fun e s' => R (.error e) s') s₁) (notedBy (model prog w) A cenv fun e s' => R (.error e) s') s)
    (n : Nat) (h : I n s) (ht : ∀ v, letOwnedTupleGo t it v = pure () := by intro _; rfl) :
    codeAny (model prog w) A (.compLoop (.ListComp elt gens scope pos) d it acc cenv) R s := by
  refine codeAny_loop rfl I (fun n s hI => ?_) n h
  show wpAny _ A ((compTurn (.ListComp elt gens scope pos) d it acc cenv).onRaise (fun x => do noteFrame x cenv; theTreesLotGoes x)) _ _ s
  refine wpAny_noted ?_
  rw [hT]
  refine wpAny_bind (wpAny_standAt (wpAny_bind (wpAny_mono (turn n s hI) (fun r s₁ h₁ => ?_) fun _ _ h' => h')))
  cases r with
  | none => exact wpAny_pure h₁
  | some v =>
    refine wpAny_bind (wpAny_of_eq (ht v) ?_)
    refine wpAny_bind (wpAny_mono h₁ (fun _ s₂ h₂ => wpAny_bind (wpAny_mono h₂ (fun ok s₃ h₃ => ?_) fun _ _ h' => h')) fun _ _ h' => h')
    cases ok with
    | false => exact wpAny_pure ⟨rfl, h₃⟩
    | true => exact wpAny_bind (wpAny_mono h₃ (fun _ s₅ h₅ => wpAny_pure ⟨rfl, h₅⟩) fun _ _ h' => h')
/-- behind a turn -/
noncomputable def Turned (h₀ : Heap) (L : Addr) (m : Str → Option Value) (s₂ : Shared) (I C D : Addr) (oI : Obj) (Kn : (Str → Option Value) → Prop) (J : List Value → List (Addr × Obj) → Prop) (s₅ : Shared) : Prop :=
  ∃ h' tk' ys' nw' oC' m₂', s₅ = { s₂ with heap := h', toks := tk' } ∧ Fr h₀ L h' m ∧ LCg.NsObj oC' m₂' ∧ Kn m₂' ∧ News h₀ L h' ((I, oI) :: (C, oC') :: (D, LCg.lst ys') :: nw') ∧ LCg.Off3 I C D nw' ∧ J ys' nw'
theorem comp_walk {elt : PySem.Expr} {gens : List Comprehension} {scope : Scope} {cl : List (Str × Addr)} {pos : Pos} {d : Nat} {x : Str} {px : Pos} {ipos : Pos} {ifs : List PySem.Expr} {emit : Sem Unit} {R : Result → Shared → Prop}
    {s₂ : Shared} {I C D : Addr} {fp : List Addr} {n : Nat} {P : Nat → Value → Prop} {St : Nat → Heap → Prop} (ob : Addr → Obj) (Kn : (Str → Option Value) → Prop) (J : Nat → List Value → List (Addr × Obj) → Prop)
    (W : Walks prog w A I fp [I] n P St) (hIo : ∀ i h, St i h → ∃ o, h.get? I = some o)
    (hkind : scope.kind = .function) (hx : scope.names.lookup x = some .local) (hIL : L ≠ I) (hI₀ : h₀.get? I = none) (hC₀ : h₀.get? C = none) (hCL : C ≠ L) (hCI : I ≠ C) (hDI : I ≠ D) (hDC : D ≠ C) (hCf : C ∉ fp)
    (hT : compTurn (.ListComp elt gens scope pos) d (.ref I) (.ref D) (compEnvC scope cl C env) = turnOf (.Name x px) ipos ifs (.ref I) (compEnvC scope cl C env) emit (.compLoop (.ListComp elt gens scope pos) d (.ref I) (.ref D) (compEnvC scope cl C env)))
    (hKn : ∀ m₂ v, Kn m₂ → Kn (fun z => if z = x then some v else m₂ z))
    (hJo : ∀ i ys nw, J i ys nw → ∀ b ∈ fp, b ≠ I → (b, ob b) ∈ nw)
    (turn : ∀ i v ys nw oI oC m₂ h tk (E' : Value → Shared → Prop), i < n → P i v → J i ys nw → LCg.NsObj oC m₂ → Kn m₂ → m₂ x = some v → Fr h₀ L h m → News h₀ L h ((I, oI) :: (C, oC) :: (D, LCg.lst ys) :: nw) → LCg.Off3 I C D nw →
      wpAny (model prog w) A (testsOf ifs (compEnvC scope cl C env)) (fun ok s₃ => if ok = true then wpAny (model prog w) A emit (fun _ => Turned h₀ L m s₂ I C D oI Kn (J (i + 1))) E' s₃ else Turned h₀ L m s₂ I C D oI Kn (J (i + 1)) s₃) E' { s₂ with heap := h, toks := tk })
    (fin : ∀ h tk ys nw oC m₂, Fr h₀ L h m → LCg.NsObj oC m₂ → Kn m₂ → News h₀ L h ((C, oC) :: (D, LCg.lst ys) :: nw) → LCg.Off3 I C D nw → J n ys nw → R (.ok .next) { s₂ with heap := h, toks := tk })
    {h : Heap} {tk : Nat} {oC : Obj} {m₂ : Str → Option Value} {ys : List Value} {nw : List (Addr × Obj)} (hst : St 0 h) (F : Fr h₀ L h m) (hoC : LCg.NsObj oC m₂) (hk : Kn m₂) (N : News h₀ L h ((C, oC) :: (D, LCg.lst ys) :: nw)) (off : LCg.Off3 I C D nw) (h0 : J 0 ys nw) :
    codeAny (model prog w) A (.compLoop (.ListComp elt gens scope pos) d (.ref I) (.ref D) (compEnvC scope cl C env)) R { s₂ with heap := h, toks := tk } := by
  have zC : ∀ {h'} {oC' : Obj} {r}, News h₀ L h' ((C, oC') :: r) → h'.get? C = some oC' := fun N => (N _ (.head _)).1
  refine loop_gen (fun k s' => ∃ h' tk' i ys' nw' oC' m', s' = { s₂ with heap := h', toks := tk' } ∧ i ≤ n ∧ k = n + 1 - i ∧ St i h' ∧ Fr h₀ L h' m ∧ LCg.NsObj oC' m' ∧ Kn m' ∧ News h₀ L h' ((C, oC') :: (D, LCg.lst ys') :: nw') ∧ LCg.Off3 I C D nw' ∧ J i ys' nw') hT ?_ (n + 1)
    ⟨h, tk, 0, ys, nw, oC, m₂, rfl, Nat.zero_le _, rfl, hst, F, hoC, hk, N, off, h0⟩
  rintro k s' ⟨h', tk', i, ys', nw', oC', m', rfl, hi, rfl, hst', F', hoC', hk', N', off', hJ⟩
  by_cases hlt : i < n
  · refine W.item i _ _ _ hlt hst' fun v h₂ tk₂ hPv hst₂ hk₂ => ?_
    have hn' : h'.Ns C m' := hoC'.ns (zC N')
    refine wpAny_assign_Name (wpAny_storeName_local (lookup_relabel_local hx) (hn'.at' fun o e => hk₂ _ o (by simpa using Ne.symm hCI) e) (fun h₃ hn₃ hs₃ => ?_) (by simp [compEnvC, relabel, hkind]))
    have hst₃ : St (i + 1) h₃ := W.frame _ _ _ hst₂ fun b hb o e => hs₃.extBut b o (fun q => hCf (by have q' : b = C := q; rw [← q']; exact hb)) e
    obtain ⟨oI, heI⟩ := hIo _ _ hst₃
    obtain ⟨oC2, heC, hoC2⟩ := LCg.ns_obj hn₃
    have F₃ : Fr h₀ L h₃ m := (LCg.fr_but F' hk₂ hIL hI₀).change hs₃ hCL hC₀
    have off3 := off'.mem
    have N₂ : News h₀ L h₂ ((D, LCg.lst ys') :: nw') := LCg.news_but (fun p hp => N' p (.tail _ hp)) hk₂ fun p hp => by
      rcases List.mem_cons.mp hp with rfl | hp
      · exact Ne.symm hDI
      · exact (off3 p hp).1
    have N₃ : News h₀ L h₃ ((I, oI) :: (C, oC2) :: (D, LCg.lst ys') :: nw') := fun p hp => by
      rcases List.mem_cons.mp hp with rfl | hp
      · exact ⟨heI, Ne.symm hIL, hI₀⟩
      · rcases List.mem_cons.mp hp with rfl | hp
        · exact ⟨heC, hCL, hC₀⟩
        · have z := N₂ p hp
          refine ⟨hs₃.extBut _ _ ?_ z.1, z.2⟩
          rcases List.mem_cons.mp hp with rfl | hp
          · exact hDC
          · exact (off3 p hp).2.1
    have again : ∀ s₅, Turned h₀ L m s₂ I C D oI Kn (J (i + 1)) s₅ → ∃ k', k' < n + 1 - i ∧ ∃ h' tk' i ys' nw' oC' m', s₅ = { s₂ with heap := h', toks := tk' } ∧ i ≤ n ∧ k' = n + 1 - i ∧ St i h' ∧ Fr h₀ L h' m ∧ LCg.NsObj oC' m' ∧ Kn m' ∧ News h₀ L h' ((C, oC') :: (D, LCg.lst ys') :: nw') ∧ LCg.Off3 I C D nw' ∧ J i ys' nw' := by
      rintro s₅ ⟨h₄, tk₄, ys₄, nw₄, oC₄, m₄, rfl, F₄, ho₄, hk₄, N₄, off₄, hJ₄⟩
      refine ⟨n + 1 - (i + 1), by omega, h₄, tk₄, i + 1, ys₄, nw₄, oC₄, m₄, rfl, hlt, rfl, ?_, F₄, ho₄, hk₄, fun p hp => N₄ p (.tail _ hp), off₄, hJ₄⟩
      refine W.frame _ _ _ hst₃ fun b hb o' e => ?_
      by_cases hbI : b = I
      · subst hbI
        rw [heI] at e
        rw [← Option.some.inj e]
        exact (N₄ _ (.head _)).1
      · have h1 := (N₃ _ (.tail _ (.tail _ (.tail _ (hJo _ _ _ hJ b hb hbI))))).1
        rw [h1] at e
        rw [← Option.some.inj e]
        exact (N₄ _ (.tail _ (.tail _ (.tail _ (hJo _ _ _ hJ₄ b hb hbI))))).1
    refine wpAny_mono (turn i v ys' nw' oI oC2 _ h₃ _ _ hlt hPv hJ hoC2 (hKn _ _ hk') (by simp) F₃ N₃ off') (fun ok s₄ h₄ => ?_) fun _ _ e => e
    cases ok with
    | false => exact again _ h₄
    | true => exact wpAny_mono h₄ (fun _ s₅ h₅ => again _ h₅) fun _ _ e => e
  · obtain rfl : i = n := Nat.le_antisymm hi (Nat.not_lt.mp hlt)
    refine W.done _ _ _ hst' fun h₂ tk₂ hk₂ => ?_
    have off3 := off'.mem
    refine fin h₂ tk₂ ys' nw' oC' m' (LCg.fr_but F' hk₂ hIL hI₀) hoC' hk' (LCg.news_but N' hk₂ fun p hp => ?_) off' hJ
    rcases List.mem_cons.mp hp with rfl | hp
    · exact Ne.symm hCI
    · rcases List.mem_cons.mp hp with rfl | hp
      · exact Ne.symm hDI
      · exact (off3 p hp).1
/-- the second generator starts -/
theorem start_second {elt : PySem.Expr} {gens : List Comprehension} {scope : Scope} {pos : Pos} {it acc : Value} {cenv : Env} {R : Result → Shared → Prop} {g : Comprehension} {d : Nat} (hg : gens[d]? = some g) (hga : g.is_async = 0)
    (h0 : codeAny (model prog w) A (.compLoop (.ListComp elt gens scope pos) d it acc cenv) R s)
    (h : wpAny (model prog w) A (pyIter it) (fun it' s' => codeAny (model prog w) A (.compLoop (.ListComp elt gens scope pos) d it' acc cenv) R s')
      (notedBy (model prog w) A cenv fun x s' => R (.error x) s') s) :
    codeAny (model prog w) A (.compStart (.ListComp elt gens scope pos) d it acc cenv) R s := by
  refine codeAny_of_tree ?_
  show wpAny _ _ ((compStart (.ListComp elt gens scope pos) d it acc cenv).onRaise (fun x => do noteFrame x cenv; standAt theWindowsPlace)) _ _ s
  refine wpAny_notedAt ?_
  unfold compStart
  rw [show clausesOf (.ListComp elt gens scope pos) = gens from rfl, hg]
  have hz : ((some g).elim false fun x => x.is_async != 0) = false := by show (g.is_async != 0) = false; rw [hga]; rfl
  rw [hz]
  dsimp only [Bool.false_eq_true, if_false]
  show wpAny _ _ (ask >>= _) _ _ s
  refine wpAny_bind (wpAny_askSetting (wpAny_ite ?_))
  split
  · first
      | exact wpAny_bind (wpAny_pure (wpAny_pure (And.intro rfl h0)))
      | exact wpAny_pure (And.intro rfl h0)
  · first
      | exact wpAny_bind (wpAny_rule (wpAny_bind (wpAny_standAt (wpAny_bind (wpAny_mono h (fun it' s' h' => wpAny_pure (And.intro rfl h')) fun _ _ x => x)))))
      | (refine wpAny_bind (wpAny_rule ?_); show wpAny _ _ (standAt g.iter.pos >>= _) _ _ s; exact wpAny_bind (wpAny_standAt (wpAny_bind (wpAny_mono h (fun it' s' h' => wpAny_pure (And.intro rfl h')) fun _ _ x => x))))
noncomputable def emitOf (elt : PySem.Expr) (acc : Value) (cenv : Env) : Sem Unit := do
  let _ ← call (.builtin "list.append") [acc, ← eval elt cenv]
theorem turn_one (elt iter t : PySem.Expr) (ifs : List PySem.Expr) (scope : Scope) (pos : Pos) (it acc : Value) (cenv : Env) :
    compTurn (.ListComp elt [⟨t, iter, ifs, 0⟩] scope pos) 0 it acc cenv = turnOf t iter.pos ifs it cenv (emitOf elt acc cenv) (.compLoop (.ListComp elt [⟨t, iter, ifs, 0⟩] scope pos) 0 it acc cenv) := by rfl
end
end Mine
end
section
open PySem PySem.W PySem.Calls PyProof.Rows PySem.Spec
namespace Mine
section
variable {prog : Program} {w : World} {A : Around} {E : Value → Shared → Prop} {s : Shared} {h₀ : Heap} {L : Addr} {m : Str → Option Value} {env : Env}
/-- one turn of a comprehension -/
noncomputable def CTurn (prog : Program) (w : World) (A : Around) (h₀ : Heap) (L : Addr) (m : Str → Option Value) (env : Env) (elt : PySem.Expr) (ifs : List PySem.Expr) (x : Str) (scope : Scope) (cl : List (Str × Addr)) (s₂ : Shared) (P : Nat → Value → Prop) (J : Nat → List Value → List (Addr × Obj) → Prop) : Prop :=
  ∀ i v ys nw I oI C oC D m₂ h tk (E' : Value → Shared → Prop), P i v → J i ys nw → LCg.NsObj oC m₂ → m₂ x = some v → Fr h₀ L h m → News h₀ L h ((I, oI) :: (C, oC) :: (D, LCg.lst ys) :: nw) → LCg.Off3 I C D nw → ((@Ne Nat I C) ∧ (@Ne Nat I D) ∧ (@Ne Nat C D)) →
    wpAny (model prog w) A (testsOf ifs (compEnvC scope cl C env)) (fun ok s₃ => if ok = true then
        wpAny (model prog w) A (eval elt (compEnvC scope cl C env)) (LCg.CompEnd h₀ L m { s₂ with heap := h, toks := tk } I oI C oC D (LCg.lst ys) (fun _ => True) (fun y nw' => J (i + 1) (ys ++ [y]) nw')) E' s₃
      else LCg.CompEnd h₀ L m { s₂ with heap := h, toks := tk } I oI C oC D (LCg.lst ys) (fun _ => True) (fun _ nw' => J (i + 1) ys nw') .none s₃) E' { s₂ with heap := h, toks := tk }
theorem comp_block {elt iter : PySem.Expr} {ifs : List PySem.Expr} {x : Str} {px : Pos} {scope : Scope} {cl : List (Str × Addr)} {pos : Pos} {s₂ : Shared} {I : Addr} {fp : List Addr} {n : Nat} {P : Nat → Value → Prop} {St : Nat → Heap → Prop} {news : List (Addr × Obj)}
    {RR : Value → Addr → Result → Shared → Prop} (ob : Addr → Obj)
    (W : Walks prog w A I fp [I] n P St) (hsz : n ≤ sizeLine) (hIo : ∀ i h, St i h → ∃ o, h.get? I = some o)
    (hcell : ∀ y ∈ scope.names, y.2 ≠ .cell) (hkind : scope.kind = .function) (hx : scope.names.lookup x = some .local) (hst : St 0 s₂.heap) (hfp : ∀ b ∈ fp, b < s₂.heap.objs.size)
    (F : Fr h₀ L s₂.heap m) (N : News h₀ L s₂.heap news) (hIL : L ≠ I) (hI₀ : h₀.get? I = none) (off : ∀ p ∈ news, p.1 ≠ I)
    (J : Nat → List Value → List (Addr × Obj) → Prop) (hJo : ∀ i ys nw, J i ys nw → ∀ b ∈ fp, b ≠ I → (b, ob b) ∈ nw) (h0 : J 0 [] news)
    (turn : CTurn prog w A h₀ L m env elt ifs x scope cl s₂ P J)
    (hRR : ∀ D C h tk m' ys news', Fr h₀ L h m → News h₀ L h ((D, LCg.lst ys) :: news') → LCg.Off1 D news' → h.Ns C m' → h₀.get? C = none → h₀.get? D = none → C ≠ L → D ≠ L → C ≠ D → (∀ p ∈ news', p.1 ≠ C) → J n ys news' → RR (.ref D) C (.ok .next) { s₂ with heap := h, toks := tk }) :
    wpAny (model prog w) A (newList []) (fun acc s₃ => wpAny (model prog w) A (newFunctionEnv scope env.globals cl [] env.qual none .none (some env)) (fun cenv s₄ =>
      codeAny (model prog w) A (.compStart (.ListComp elt [⟨.Name x px, iter, ifs, 0⟩] scope pos) 0 (.ref I) acc { cenv with scope := relabel scope env }) (RR acc cenv.locals) s₄) E s₃) E s₂ := by
  refine wpAny_newObj_type (wpAny_newFunctionEnv hcell (by intro y hy; simp at hy) (fun h₁ hns₁ hsb₁ => ?_) hkind)
  dsimp only at hns₁ hsb₁ ⊢
  generalize hH2 : s₂.heap.push { cls := .type "list", dict := none, data := .seq ([] : List Value).toArray } = H2 at hns₁ hsb₁ ⊢
  have hC : H2.objs.size = s₂.heap.objs.size + 1 := by rw [← hH2, Heap.size_push]
  have hDC : s₂.heap.objs.size ≠ H2.objs.size := by rw [hC]; exact Nat.ne_of_lt (Nat.lt_succ_self _)
  have below : ∀ b, b < s₂.heap.objs.size → b ≠ H2.objs.size ∧ b ≠ s₂.heap.objs.size := fun b hb => ⟨by rw [hC]; exact Nat.ne_of_lt (Nat.lt_succ_of_lt hb), Nat.ne_of_lt hb⟩
  have hDf : s₂.heap.objs.size ∉ fp := fun hm => Nat.lt_irrefl _ (hfp _ hm)
  have hCf : H2.objs.size ∉ fp := fun hm => by have := hfp _ hm; rw [hC] at this; exact Nat.lt_irrefl _ (Nat.lt_of_succ_lt this)
  have hIf : I ∈ fp := W.sub I (List.mem_singleton.mpr rfl)
  have hIlt : I < s₂.heap.objs.size := hfp I hIf
  have old : ∀ b o, s₂.heap.get? b = some o → h₁.get? b = some o := fun b o e => hsb₁.extBut b o (below b (Heap.lt_size e)).1 (Heap.get?_push_of_some _ (hH2 ▸ Heap.get?_push_of_some _ e))
  have hacc : h₁.get? s₂.heap.objs.size = some (LCg.lst []) := hsb₁.extBut _ _ hDC (Heap.get?_push_of_some _ (hH2 ▸ Heap.get?_push_size _ rfl))
  have hst₁ : St 0 h₁ := W.frame _ _ _ hst fun b _ o e => old b o e
  have new₀ : ∀ a, s₂.heap.objs.size ≤ a → h₀.get? a = none := fun a ha => by
    cases e : h₀.get? a with
    | none => rfl
    | some o' => exact absurd (Heap.lt_size (F.keep a o' e)) (Nat.not_lt.mpr ha)
  have hD₀ : h₀.get? s₂.heap.objs.size = none := new₀ _ (Nat.le_refl _)
  have hC₀ : h₀.get? H2.objs.size = none := new₀ _ (by rw [hC]; exact Nat.le_succ _)
  have hLlt : L < s₂.heap.objs.size := F.ns.lt
  have hDL : s₂.heap.objs.size ≠ L := Ne.symm (below L hLlt).2
  have hCL : H2.objs.size ≠ L := Ne.symm (below L hLlt).1
  have hCI : I ≠ H2.objs.size := (below I hIlt).1
  have hDI : I ≠ s₂.heap.objs.size := (below I hIlt).2
  have off₀ : LCg.Off3 I H2.objs.size s₂.heap.objs.size news := LCg.Off3.of fun p hp => ⟨off p hp, (below _ (Heap.lt_size (N p hp).1)).1, (below _ (Heap.lt_size (N p hp).1)).2⟩
  have loop : ∀ s₃ : Shared, s₃ = { s₂ with heap := h₁, toks := s₂.toks + ([] : List (Str × Value)).length } →
      codeAny (model prog w) A (.compLoop (.ListComp elt [⟨.Name x px, iter, ifs, 0⟩] scope pos) 0 (.ref I) (.ref s₂.heap.objs.size) (compEnvC scope cl H2.objs.size env))
        (RR (.ref s₂.heap.objs.size) H2.objs.size) s₃ := by
    rintro s₃ rfl
    obtain ⟨oC, hoC1, hoC2⟩ := LCg.ns_obj hns₁
    have N1 : News h₀ L h₁ ((H2.objs.size, oC) :: (s₂.heap.objs.size, LCg.lst []) :: news) := fun p hp => by
      rcases List.mem_cons.mp hp with rfl | hp
      · exact ⟨hoC1, hCL, hC₀⟩
      rcases List.mem_cons.mp hp with rfl | hp
      · exact ⟨hacc, hDL, hD₀⟩
      · exact ⟨old _ _ (N p hp).1, (N p hp).2⟩
    refine comp_walk (px := px) (m := m) ob (fun _ => True) (fun i ys nw => J i ys nw ∧ ys.length ≤ i) W hIo hkind hx hIL hI₀ hC₀ hCL hCI hDI hDC hCf (turn_one ..) (fun _ _ _ => trivial) (fun i ys nw hJ => hJo i ys nw hJ.1) ?_ ?_ hst₁ (F.keeps old) hoC2 trivial N1 off₀ ⟨h0, Nat.le_refl _⟩
    · rintro i v ys nw oI oC' m₂ h tk E' hi hP ⟨hJ, hl⟩ ho _ hv F N off
      refine wpAny_mono (turn i v ys nw I oI H2.objs.size oC' s₂.heap.objs.size m₂ h tk E' hP hJ ho hv F N off ⟨hCI, hDI, Ne.symm hDC⟩) (fun ok s₄ h₄ => ?_) fun _ _ e => e
      cases ok with
      | false =>
        simp only [Bool.false_eq_true, if_false] at h₄ ⊢
        obtain ⟨h₄, tk₄, news₄, rfl, F₄, N₄, off₄, _, J₄⟩ := h₄
        exact ⟨h₄, tk₄, ys, news₄, oC', m₂, rfl, F₄, ho, trivial, N₄, off₄, J₄, Nat.le_succ_of_le hl⟩
      | true =>
        simp only [if_true] at h₄ ⊢
        unfold emitOf
        refine wpAny_bind (wpAny_mono h₄ (fun y s₅ h₅ => ?_) fun _ _ e => e)
        obtain ⟨h₅, tk₅, news₅, rfl, F₅, N₅, off₅, _, J₅⟩ := h₅
        have zD := (N₅ (s₂.heap.objs.size, LCg.lst ys) (.tail _ (.tail _ (.head _)))).1
        refine wpAny_bind (append_at (hsz := by show ys.toArray.size ≤ sizeLine; rw [List.size_toArray]; omega) zD fun h₆ hs₆ hD₆ => wpAny_pure ?_)
        have off5 := off₅.mem
        refine ⟨h₆, tk₅, ys ++ [y], news₅, oC', m₂, rfl, F₅.change hs₆ hDL hD₀, ho, trivial, fun p hp => ?_, off₅, J₅, by rw [List.length_append, List.length_singleton]; omega⟩
        rcases List.mem_cons.mp hp with rfl | hp
        · exact ⟨hs₆.extBut _ _ hDI (N₅ _ (.head _)).1, (N₅ _ (.head _)).2⟩
        · rcases List.mem_cons.mp hp with rfl | hp
          · exact ⟨hs₆.extBut _ _ (Ne.symm hDC) (N₅ _ (.tail _ (.head _))).1, (N₅ _ (.tail _ (.head _))).2⟩
          · rcases List.mem_cons.mp hp with rfl | hp
            · exact ⟨hD₆.trans (congrArg some (LCg.lst_snoc ys y)), hDL, hD₀⟩
            · exact ⟨hs₆.extBut _ _ (off5 p hp).2.2 (N₅ p (.tail _ (.tail _ (.tail _ hp)))).1, (N₅ p (.tail _ (.tail _ (.tail _ hp)))).2⟩
    · rintro h tk ys nw oC' m₂ F' ho _ N' off' ⟨hJ, _⟩
      exact hRR _ _ h tk m₂ ys nw F' (fun p hp => N' p (.tail _ hp)) off'.one (ho.ns (N' _ (.head _)).1) hC₀ hD₀ hCL hDL (Ne.symm hDC) (fun p hp => (off'.mem p hp).2.1) hJ
  exact codeAny_compStart_list (loop _ rfl) (W.self 0 _ _ _ hst₁ (loop _ rfl))
/-- what is to be shown of a comprehension over a list of the ledger -/
noncomputable def ListCompL (prog : Program) (w : World) (A : Around) (h₀ : Heap) (L : Addr) (m : Str → Option Value) (env : Env) (elt : PySem.Expr) (ifs : List PySem.Expr) (x : Str) (scope : Scope) (cl : List (Str × Addr)) (Q : Value → Shared → Prop) (xv : Value) (s₁ : Shared) : Prop :=
  ∃ (l : Addr) (vs : List Value) (ep : Nat) (news : List (Addr × Obj)) (J : Nat → List Value → List (Addr × Obj) → Prop),
    xv = .ref l ∧ vs.length < 1000 ∧ (l, PySem.W.listOf vs.toArray ep) ∈ news ∧ (∀ i ys nw, J i ys nw → (l, PySem.W.listOf vs.toArray ep) ∈ nw) ∧ Fr h₀ L s₁.heap m ∧ News h₀ L s₁.heap news ∧ J 0 [] news ∧
    (∀ g, CTurn prog w A h₀ L m env elt ifs x scope cl { s₁ with heap := g } (fun i v => vs[i]? = some v) J) ∧
    ∀ D h tk ys nw, Fr h₀ L h m → News h₀ L h ((D, LCg.lst ys) :: nw) → LCg.Off1 D nw → J vs.length ys nw → Q (.ref D) { s₁ with heap := h, toks := tk }
theorem comp_list {elt iter : PySem.Expr} {ifs : List PySem.Expr} {x : Str} {px : Pos} {scope : Scope} {cl : List (Str × Addr)} {pos : Pos} {Q : Value → Shared → Prop} (_F : Fr h₀ L s.heap m) (hh : A.handled = none)
    (hclos : closureFor scope env = pure cl) (hcell : ∀ y ∈ scope.names, y.2 ≠ .cell) (hkind : scope.kind = .function)
    (hnames : ∀ y ∈ scope.names, y.2 = .local → scope.names.lookup y.1 = some .local) (hx : scope.names.lookup x = some .local)
    (hs : ∀ x, foldedSetIterable iter env x = pure x)
    (h : wpAny (model prog w) A (eval iter env) (ListCompL prog w A h₀ L m env elt ifs x scope cl Q) E s) :
    wpAny (model prog w) A (eval (.ListComp elt [⟨.Name x px, iter, ifs, 0⟩] scope pos) env) Q E s := by
  rw [eval_ListComp]
  refine wpAny_comprehension_free (use := none) rfl hs hclos hkind hnames (wpAny_mono h (fun xv s₁ h₁ => ?_) fun _ _ e => e)
  obtain ⟨l, vs, ep, news, J, rfl, hsz, hm, hJl, F, N, h0, turn, done⟩ := h₁
  have hl : s₁.heap.IsList l vs.toArray := News_isList N hm
  have hlt : l < s₁.heap.objs.size := Heap.lt_size (N _ hm).1
  refine wpAny_pyIter_list hl ?_
  have up : ∀ b o, s₁.heap.get? b = some o → (s₁.heap.push { cls := .type "list_iterator", data := .fields #[.ref l, .int 0 0] }).get? b = some o := fun b o e => Heap.get?_push_of_some _ e
  have hlen : vs.toArray.size = vs.length := List.size_toArray ..
  have W := Walks.list (prog := prog) (w := w) hh s₁.heap.objs.size l (Nat.ne_of_lt hlt) vs.toArray
  rw [hlen] at W
  refine comp_block (fun _ => PySem.W.listOf vs.toArray ep) W (by rw [sizeLine_eq]; omega) (fun i h st => by obtain ⟨o, e, _⟩ := st.1; exact ⟨o, e⟩) hcell hkind hx ⟨⟨_, Heap.get?_push_size _ rfl, rfl, rfl⟩, hl.push _⟩ (fun b hb => ?_)
    (F.keeps up) (N.grown up) (Nat.ne_of_lt F.ns.lt) (next_is_new F) (fun p hp => Nat.ne_of_lt (Heap.lt_size (N p hp).1)) J ?_ h0 ?_ ?_
  · show b < (s₁.heap.push _).objs.size
    rw [Heap.size_push]
    rcases List.mem_cons.mp hb with rfl | hb
    · exact Nat.lt_succ_self _
    · rw [List.mem_singleton.mp hb]; exact Nat.lt_succ_of_lt hlt
  · intro i ys nw hJ b hb hbI
    rcases List.mem_cons.mp hb with e | hb
    · exact absurd e hbI
    · rw [List.mem_singleton.mp hb]; exact hJl _ _ _ hJ
  · intro i v ys nw I oI C oC D m₂ h tk E' hP
    exact turn _ i v ys nw I oI C oC D m₂ h tk E' (by simpa using hP)
  · intro D C h tk m' ys news' F' N' o1 hn hC₀ hD₀ hCL hDL hCD offC fin
    refine ⟨m', hn, fun h'' hs'' => done D h'' tk ys news' (F'.change hs'' hCL hC₀) (fun p hp => ?_) o1 fin⟩
    refine ⟨hs''.extBut _ _ ?_ (N' p hp).1, (N' p hp).2⟩
    rcases List.mem_cons.mp hp with rfl | hp
    · exact Ne.symm hCD
    · exact offC p hp
end
end Mine
end
section
open PySem PySem.W PySem.Calls PyProof.Rows PySem.Builtin
namespace Mine
noncomputable abbrev sliN : Obj := { cls := .type "slice", data := .fields #[.none, .none, .none] }
theorem slice_noindex : typeLookup (.type "slice") (Str.ofString "__index__") = pure none := by rw [typeLookup_type, builtinLookup_eq_fast]; kernel_rfl
set_option maxHeartbeats 4000000 in
theorem setslice_meets (l d sl : Addr) (vs us : List Value) (n k : Nat) (hld : l ≠ d) (hv : vs.length < 1000) (hu : us.length < 1000) :
   Meets (Builtin.«list.__setitem__» ⟨[.ref l, .ref sl, .ref d], []⟩) (fun _ R s => s.heap.get? l = some (PySem.W.listOf vs.toArray n) ∧ s.heap.get? d = some (PySem.W.listOf us.toArray k) ∧ s.heap.get? sl = some sliN ∧
     ∀ h' n', Heap.SameBut l s.heap h' → h'.get? l = some (PySem.W.listOf us.toArray n') → R (.ok (.ret .none)) { s with heap := h' }) :=
  .of_wp fun prog w A R s h => by
    obtain ⟨hp, g, dr, tk, os⟩ := s; obtain ⟨h1, h2, h3, h⟩ := h
    wp_walk
    show wpAny _ _ (typeLookup (.type "slice") (Str.ofString "__index__")) _ _ _
    rw [slice_noindex]
    wp_walk
    have e1 : List.listSameRef (.ref l) (.ref d) = false := by
      show (l == d) = false
      simpa using hld
    rw [e1]
    simp only [Bool.false_eq_true, if_false]
    have hsi : sliceIndices .none .none .none vs.toArray.size = pure (sliceBounds none none none vs.toArray.size) := sliceIndices_raw none none none vs.toArray.size (by simp)
    wp_walk using (wpAny_of_eq hsi ?_)
    have hb : sliceBounds none none none vs.toArray.size = (0, (vs.toArray.size : Int), 1) := rfl
    have e2 : ((max (0 : Int) (vs.toArray.size : Int)).toNat) = vs.toArray.size := by omega
    have hlt : List.listTooLong (vs.toArray.size + us.toArray.size) = false := by
      rw [List.size_toArray, List.size_toArray]
      show decide (_ > _) = false
      rw [decide_eq_false_iff_not, sizeLine_eq]
      omega
    rw [hlt, hb]
    dsimp only
    rw [e2]
    simp only [Bool.false_eq_true, if_false]
    have hsz : vs.toArray.size ≤ sizeLine := by rw [List.size_toArray, sizeLine_eq]; omega
    have ef : ∀ xs : Array Value, xs = vs.toArray → xs.extract 0 (0 : Int).toNat ++ us.toArray ++ xs.extract vs.toArray.size = us.toArray := by
      rintro xs rfl
      simp
    refine wpAny_bind (wpAny_updateSeq (hz := hsz) (_hz' := ?_) h1 rfl ?_)
    rotate_left
    · rw [ef _ rfl, List.size_toArray, sizeLine_eq]; omega
    refine wpAny_bind (wpAny_letGo (wpAny_pure ⟨_, rfl, h _ _ (Heap.SameBut.update ..) (by rw [Heap.get?_update_self _ h1 rfl]; show some (Obj.mk _ _ (Data.seq (vs.toArray.extract 0 (0 : Int).toNat ++ us.toArray ++ vs.toArray.extract vs.toArray.size) _) _) = _; rw [ef _ rfl])⟩))
section
variable {prog : Program} {w : World} {A : Around} {E : Value → Shared → Prop} {s : Shared} {h₀ : Heap} {L : Addr} {m : Str → Option Value} {news news' : List (Addr × Obj)}
theorem setslice {l d sl : Addr} {vs us : List Value} {n k : Nat} {Q : Unit → Shared → Prop} (F : Fr h₀ L s.heap m) (N : News h₀ L s.heap ((l, PySem.W.listOf vs.toArray n) :: news)) (hne : ∀ p ∈ news, p.1 ≠ l) (hd : (d, PySem.W.listOf us.toArray k) ∈ news)
    (hs : s.heap.get? sl = some sliN) (hv : vs.length < 1000) (hu : us.length < 1000)
    (h : ∀ h' n', Fr h₀ L h' m → News h₀ L h' ((l, PySem.W.listOf us.toArray n') :: news) → Q () { s with heap := h' }) : wpAny (model prog w) A (setItem (.ref l) (.ref sl) (.ref d)) Q E s := by
  have hl := N _ (.head _)
  have hT : s.TypeIs (.ref l) "list" := ⟨_, hl.1, rfl⟩
  unfold setItem
  refine wpAny_holding ?_
  refine wpAny_bind (wpAny_sequenceKey hT (by decide) ?_)
  refine wpAny_bind (wpAny_callSpecial?_slot (name := Str.ofString "__setitem__") hT PySem.F.slot_list_setitem ?_)
  refine call_meets PySem.F.slot_list_setitem hT PySem.F.entry_list_setitem (PySem.F.args_list_setitem_3 _ _ _) (setslice_meets l d sl vs us n k (fun e => hne _ hd e.symm) hv hu) ⟨hl.1, (N _ (.tail _ hd)).1, hs, fun h' n' hsb hl' => ?_⟩
  refine wpAny_pure (h h' n' (F.change hsb hl.2.1 hl.2.2) fun p hp => ?_)
  rcases List.mem_cons.mp hp with rfl | hp
  · exact ⟨hl', hl.2⟩
  · exact ⟨hsb.extBut _ _ (hne p hp) (N p (.tail _ hp)).1, (N p (.tail _ hp)).2⟩
theorem setslice_new {l d : Addr} {vs us : List Value} {n k : Nat} {Q : Unit → Shared → Prop} (F : Fr h₀ L s.heap m) (N : News h₀ L s.heap ((l, PySem.W.listOf vs.toArray n) :: news)) (hne : ∀ p ∈ news, p.1 ≠ l) (hd : (d, PySem.W.listOf us.toArray k) ∈ news)
    (hv : vs.length < 1000) (hu : us.length < 1000)
    (h : ∀ h' n', Fr h₀ L h' m → News h₀ L h' ((l, PySem.W.listOf us.toArray n') :: news) → Q () { s with heap := h' }) :
    wpAny (model prog w) A (setItem (.ref l) (.ref s.heap.objs.size) (.ref d)) Q E { s with heap := s.heap.push { cls := .type "slice", data := .fields #[.none, .none, .none] } } :=
  setslice (s := { s with heap := s.heap.push { cls := .type "slice", data := .fields #[.none, .none, .none] } }) (F.push _) (N.grown fun _ _ e => Heap.get?_push_of_some _ e) hne hd (Heap.get?_push_size _ rfl) hv hu h
theorem append_led {l : Addr} {vs : List Value} {n : Nat} {v : Value} {Q : Value → Shared → Prop} (F : Fr h₀ L s.heap m) (N : News h₀ L s.heap ((l, PySem.W.listOf vs.toArray n) :: news)) (hne : ∀ p ∈ news, p.1 ≠ l) (hv : vs.length < 1000)
    (h : ∀ h', Fr h₀ L h' m → News h₀ L h' ((l, PySem.W.listOf (vs ++ [v]).toArray (n + 1)) :: news) → Q .none { s with heap := h' }) : wpAny (model prog w) A (call (.builtin "list.append") [.ref l, v]) Q E s := by
  have hl := N _ (.head _)
  refine append_at hl.1 (fun h' hsb hl' => ?_) (by rw [List.size_toArray, sizeLine_eq]; omega)
  refine h h' (F.change hsb hl.2.1 hl.2.2) fun p hp => ?_
  rcases List.mem_cons.mp hp with rfl | hp
  · refine ⟨hl'.trans ?_, hl.2⟩
    rw [List.push_toArray]
  · exact ⟨hsb.extBut _ _ (hne p hp) (N p (.tail _ hp)).1, (N p (.tail _ hp)).2⟩
theorem allLt_mem {rest : List (Addr × Obj)} {D : Addr} (h : AllLt D rest) : ∀ p ∈ rest, @LT.lt Nat _ p.1 D := by
  induction rest with
  | nil => intro p hp; cases hp
  | cons q r ih =>
    intro p hp
    rcases List.mem_cons.mp hp with rfl | hp
    · exact h.1
    · exact ih h.2 p hp
theorem restOff {rest : List (Addr × Obj)} {L' D : Addr} (h : AllLt L' rest) (hd : @LE.le Nat _ L' D) : ∀ p ∈ rest, p.1 ≠ D := by
  induction rest with
  | nil => intro p hp; cases hp
  | cons q r ih =>
    intro p hp
    rcases List.mem_cons.mp hp with rfl | hp
    · exact Nat.ne_of_lt (Nat.lt_of_lt_of_le h.1 hd)
    · exact ih h.2 p hp
end
end Mine
end
section
open PySem PySem.W PySem.Calls PyProof.Rows PySem.Builtin PySem.Builtin.Re
namespace Mine
theorem runFor_done {m : Sre.M} (h : m.outcome.isSome = true) : ∀ n, Sre.M.runFor n m = m
  | 0 => rfl
  | n + 1 => by show (if m.outcome.isSome then m else _) = m; rw [if_pos h]
theorem runFor_add (b : Nat) : ∀ (a : Nat) (m : Sre.M), Sre.M.runFor (a + b) m = Sre.M.runFor b (Sre.M.runFor a m)
  | 0, m => by rw [Nat.zero_add]; rfl
  | a + 1, m => by
    rw [Nat.succ_add]
    by_cases h : m.outcome.isSome = true
    · rw [runFor_done h, runFor_done h, runFor_done h]
    · show (if m.outcome.isSome then m else _) = Sre.M.runFor b (if m.outcome.isSome then m else _)
      rw [if_neg h, if_neg h]
      exact runFor_add b a _
section
variable {prog : Program} {w : World} {A : Around} {E : Value → Shared → Prop} {s : Shared}
theorem wp_reDrive {Q : Sre.M → Shared → Prop} : ∀ (k turns : Nat) (m : Sre.M), k < turns → (Sre.M.runFor (4 * (k + 1)) m).outcome.isSome = true → Q (Sre.M.runFor (4 * (k + 1)) m) s → wpAny (model prog w) A (reDrive turns m) Q E s
  | k, 0, m, hk, _, _ => absurd hk (Nat.not_lt_zero _)
  | 0, t + 1, m, hk, h, hq => by
    show wpAny _ _ (if (m.runFor 4).outcome.isSome then pure (m.runFor 4) else _) _ _ _
    rw [if_pos h]
    exact wpAny_pure hq
  | k + 1, t + 1, m, hk, h, hq => by
    show wpAny _ _ (if (m.runFor 4).outcome.isSome then pure (m.runFor 4) else _) _ _ _
    have e : 4 * (k + 1 + 1) = 4 + 4 * (k + 1) := by omega
    rw [e, runFor_add] at h hq
    by_cases h4 : (m.runFor 4).outcome.isSome = true
    · rw [if_pos h4]
      rw [runFor_done h4] at hq
      exact wpAny_pure hq
    · rw [if_neg h4]
      exact wpAny_bind (wpAny_rule (wp_reDrive k t _ (by omega) h hq))
theorem wp_reRun {Q : Option Sre.M → Shared → Prop} (k : Nat) (m m' : Sre.M) (hk : k < 2 ^ 64) (e : Sre.M.runFor (4 * (k + 1)) m = m')
   (h : (m'.outcome = some .matched ∧ Q (some m') s) ∨ (m'.outcome = some .failed ∧ Q none s)) : wpAny (model prog w) A (reRunToEnd m) Q E s := by
  subst e
  unfold reRunToEnd
  refine wpAny_bind (wp_reDrive k _ _ hk (by rcases h with h | h <;> rw [h.1] <;> rfl) ?_)
  refine wpAny_bind (wpAny_forIn_list _ (fun _ _ s' => s' = s) _ ?_ ?_ _ _ rfl)
  · rintro x rest b s₁ rfl
    by_cases hx : (Sre.M.runFor (4 * (k + 1)) m).seen.has x = true
    · rw [if_pos hx]
      exact wpAny_bind (wpAny_rule (wpAny_pure rfl))
    · rw [if_neg hx]
      exact wpAny_pure rfl
  · rintro b s₁ rfl
    rcases h with ⟨h, q⟩ | ⟨h, q⟩ <;> rw [h]
    · exact wpAny_pure q
    · exact wpAny_pure q
end
end Mine
end
section
open PySem PySem.W PySem.Calls PyProof.Rows PySem.Builtin PySem.Builtin.Re
namespace Mine
noncomputable def patO (src : Value) (fl c : Value) : Obj := { cls := .type "re.Pattern", data := .fields #[src, fl, .int 0 0, .none, .none, c, .int 0 0] }
noncomputable def codeOf (codes : List Value) : Array Nat := (codes.toArray.map reRawOf).map (·.toNat)
set_option maxHeartbeats 4000000 in
theorem search_meets (p c : Addr) (src fl : Value) (codes : List Value) (n : Nat) (x : Str) (t : Tok) (k : Nat) (m' : Sre.M) (hk : k < 2 ^ 64)
   (e : Sre.M.runFor (4 * (k + 1)) (Sre.forSearch (codeOf codes) x.cps 0 (min (0 : Int).toNat x.cps.size) (min (2^63-1 : Int).toNat x.cps.size) false) = m') (hf : m'.outcome = some .failed) :
   Meets (Builtin.«re.Pattern.search» ⟨[.ref p, .str x t], []⟩) (fun _ R s => s.heap.get? p = some (patO src fl (.ref c)) ∧ s.heap.get? c = some (tupO codes n) ∧ R (.ok (.ret .none)) s) :=
  .of_wp fun prog w A R s h => by
    obtain ⟨hp, g, d, tk, os⟩ := s; obtain ⟨h1, h2, h⟩ := h
    wp_walk using (wp_reRun k _ m' hk ?_ (.inr ⟨hf, ?_⟩))
    · exact e
    · exact wpAny_pure ⟨_, rfl, h⟩
open PySem.Sre in
theorem entry_search : entryFor table "re.Pattern.search" = some Builtin.«re.Pattern.search» := entryFor_of_tree (by kernel_rfl)
theorem slot_search : Slot "re.Pattern" (Str.ofString "search") "re.Pattern.search" :=
  .of (owner := "re.Pattern") (n := "search") (by rw [typeLookup_type, builtinLookup_eq_fast]; kernel_rfl) (by decide +kernel) (by decide +kernel) (by decide +kernel)
    (by first | exact .inl (by decide +kernel) | exact .inr (by decide +kernel)) (by rw [isSubtype_type]; kernel_rfl)
theorem type_search : typeOf (.builtin "re.Pattern.search") = pure (.type "method_descriptor") := by show builtinType _ = _; rw [builtinType_eq_fast]; kernel_rfl
end Mine
end
section
open PySem PySem.W PySem.Calls PyProof.Rows PySem.Builtin PySem.Builtin.Re
namespace Mine
theorem entry_sub_loop : entryFor table "re.Pattern.sub.loop" = some Builtin.«re.Pattern.sub.loop» := entryFor_of_tree (by kernel_rfl)
theorem plain_sub_loop : plainId "re.Pattern.sub.loop" = true := by decide +kernel
theorem entry_sub : entryFor table "re.Pattern.sub" = some Builtin.«re.Pattern.sub» := entryFor_of_tree (by kernel_rfl)
/-- the text of x from b to e -/
noncomputable def sliceP (x : Str) (b e : Nat) : Str := ⟨x.cps.extract b e⟩
noncomputable def outc : Option Sre.Outcome → Nat
  | some .matched => 1
  | some .failed => 2
  | _ => 0
theorem outc1 {o : Option Sre.Outcome} (h : outc o = 1) : o = some .matched := by
  match o, h with
  | some .matched, _ => rfl
theorem outc2 {o : Option Sre.Outcome} (h : outc o = 2) : o = some .failed := by
  match o, h with
  | some .failed, _ => rfl
noncomputable def found (C : Array Nat) (x : Str) (start : Nat) (must : Bool) : Sre.M := Sre.M.runFor 400 (Sre.forSearch C x.cps 0 start x.cps.size must)
/-- what sub's loop puts together -/
noncomputable def subF (C : Array Nat) (x r : Str) : Nat → (done start : Nat) → Bool → Option (List Str)
  | 0, _, _, _ => none
  | f + 1, done, start, must =>
    let m := found C x start must
    if outc m.outcome = 1 then (subF C x r f m.handed m.handed (m.handed == m.start)).map fun l => (if done < m.start then [sliceP x done m.start] else []) ++ r :: l
    else if outc m.outcome = 2 then some (if done < x.cps.size then [sliceP x done x.cps.size] else [])
    else none
theorem wp_push {prog : Program} {w : World} {A : Around} {E : Value → Shared → Prop} {s : Shared} {D : Addr} {l : List (Str × Tok)} {ep : Nat} {v : Str} {t : Tok} {Q : Unit → Shared → Prop} (hl : l.length < 1000)
   (hD : s.heap.get? D = some (PySem.W.listOf (strValues l).toArray ep))
   (h : ∀ h', Heap.SameBut D s.heap h' → h'.get? D = some (PySem.W.listOf (strValues (l ++ [(v, t)])).toArray (ep + 1)) → Q () { s with heap := h' }) : wpAny (model prog w) A (updateSeq D (·.push (.str v t))) Q E s := by
  have hs : (strValues l).toArray.size ≤ sizeLine := by
    rw [List.size_toArray, strValues, List.length_map, sizeLine_eq]; omega
  have hs2 : ((strValues l).toArray.push (.str v t)).size ≤ sizeLine + 1 := by rw [Array.size_push]; omega
  refine wpAny_updateSeq (hz := hs) (_hz' := hs2) hD rfl (h _ (Heap.SameBut.update ..) ?_)
  rw [Heap.get?_update_self _ hD rfl]
  show some _ = some _
  congr 1
  show Obj.mk _ _ (Data.seq _ (if _ then _ else _)) _ = _
  rw [if_neg (by simp [Array.size_push])]
  simp [strValues, PySem.W.listOf]
set_option maxHeartbeats 8000000 in
theorem sub_loop {prog : Program} {w : World} {A : Around} {R : Result → Shared → Prop} (p c D : Addr) (src fl : Value) (codes : List Value) (n : Nat) (x r : Str) (t u : Tok) (out : List Str) (hgl : (PySem.Builtin.Str.glued ⟨#[]⟩ out).length ≤ sizeLine) (hxs : x.cps.size < 1000) :
   ∀ (f : Nat) (i done start : Nat) (tn td ts : Tok) (must : Bool) (l : List (Str × Tok)) (ep : Nat) (o : List Str) (s : Shared), subF (codeOf codes) x r f done start must = some o →
    p ≠ D → c ≠ D → s.heap.get? p = some (patO src fl (.ref c)) → s.heap.get? c = some (tupO codes n) → s.heap.get? D = some (PySem.W.listOf (strValues l).toArray ep) →
    (l.map (·.1) ++ o).length < 1000 → (l.map (·.1)) ++ o = out →
    PySem.Builtin.Str.tooLong (out.toArray.foldl (· + ·.length + 0) 0) = false →
    (∀ h' tk t', Heap.SameBut D s.heap h' → R (.ok (.ret (.str (PySem.Builtin.Str.glued ⟨#[]⟩ out) t'))) { s with heap := h', toks := tk }) →
    codeAny (model prog w) A (.builtin "re.Pattern.sub.loop" ⟨[.ref p, .str x t, .str r u, rawInt 0, rawInt 0, .int i tn, .int done td, .int start ts, .bool must, .ref D, .bool false], []⟩) R s := by
  intro f
  induction f with
  | zero => intro i done start tn td ts must l ep o s e; exact absurd e (by simp [subF])
  | succ f ih =>
    intro i done start tn td ts must l ep o s e hpD hcD hp hc hD hlen hout hlong hR
    refine codeAny_builtin entry_sub_loop ?_
    rw [Around.under_plainId plain_sub_loop _]
    unfold subF at e
    by_cases h1 : outc (found (codeOf codes) x start must).outcome = 1
    · simp only [h1, if_true] at e
      wp_walk using (wp_reRun 99 _ (found (codeOf codes) x start must) (by decide) ?_ (.inl ⟨outc1 h1, ?_⟩))
      · exact rfl
      dsimp only
      obtain ⟨o', ho', rfl⟩ := Option.map_eq_some_iff.mp e
      have hl1 : l.length < 1000 := by rw [List.length_append, List.length_map] at hlen; omega
      have hsm : ∀ a b : Nat, (⟨x.cps.extract a b⟩ : Str).length ≤ sizeLine := fun a b => by
        show (x.cps.extract a b).size ≤ sizeLine
        rw [Array.size_extract, sizeLine_eq]; omega
      have fin : ∀ (l' : List (Str × Tok)) ep' h' tk', Heap.SameBut D s.heap h' → h'.get? D = some (PySem.W.listOf (strValues l').toArray ep') → l'.map (·.1) ++ o' = out → (l'.map (·.1) ++ o').length < 1000 →
          codeAny (model prog w) A (.builtin "re.Pattern.sub.loop" ⟨[.ref p, .str x t, .str r u, rawInt 0, rawInt 0, rawInt (i + 1), rawInt (found (codeOf codes) x start must).handed, rawInt (found (codeOf codes) x start must).handed, .bool ((found (codeOf codes) x start must).handed == (found (codeOf codes) x start must).start), .ref D, .bool false], []⟩) R { s with heap := h', toks := tk' } := by
        intro l' ep' h' tk' hs hD' ho2 hl2
        exact ih (i + 1) _ _ _ _ _ _ l' ep' o' _ ho' hpD hcD (by show h'.get? p = _; rw [hs.2 _ hpD]; exact hp) (by show h'.get? c = _; rw [hs.2 _ hcD]; exact hc) hD' hl2 ho2 hlong fun h2 tk2 t2 hs2 => hR h2 tk2 t2 (hs.trans hs2)
      by_cases hlt : done < (found (codeOf codes) x start must).start
      · rw [if_pos hlt] at hout hlen
        simp only [Int.toNat_natCast, hlt, if_true]
        have hl2 : (l ++ [((⟨x.cps.extract done (found (codeOf codes) x start must).start⟩ : Str), s.toks)]).length < 1000 := by simp at hlen ⊢; omega
        refine wpAny_bind (wpAny_mkStr (hx := hsm _ _) ?_)
        refine wpAny_bind (wp_push hl1 hD fun h1 s1 D1 => ?_)
        refine wpAny_bind (wpAny_pure ?_)
        refine wpAny_bind (wp_push hl2 D1 fun h2 s2 D2 => ?_)
        refine wpAny_pure ⟨plainId_quiet plain_sub_loop _, fin _ _ _ _ (s1.trans s2) D2 ?_ ?_⟩
        · rw [← hout]; simp [sliceP]
        · simp at hlen ⊢; omega
      · rw [if_neg hlt] at hout hlen
        simp only [Int.toNat_natCast, hlt, if_false]
        refine wpAny_bind (wpAny_pure ?_)
        refine wpAny_bind (wp_push hl1 hD fun h2 s2 D2 => ?_)
        refine wpAny_pure ⟨plainId_quiet plain_sub_loop _, fin _ _ _ _ s2 D2 ?_ ?_⟩
        · rw [← hout]; simp
        · simp at hlen ⊢; omega
    · by_cases h2 : outc (found (codeOf codes) x start must).outcome = 2
      · simp [h2] at e
        wp_walk using (wp_reRun 99 _ (found (codeOf codes) x start must) (by decide) ?_ (.inr ⟨outc2 h2, ?_⟩))
        · exact rfl
        dsimp only
        subst e
        have hl1 : l.length < 1000 := by rw [List.length_append, List.length_map] at hlen; omega
        have hsm : ∀ a b : Nat, (⟨x.cps.extract a b⟩ : Str).length ≤ sizeLine := fun a b => by
          show (x.cps.extract a b).size ≤ sizeLine
          rw [Array.size_extract, sizeLine_eq]; omega
        have fin : ∀ (l' : List (Str × Tok)) ep' h' tk' jt, Heap.SameBut D s.heap h' → h'.get? D = some (PySem.W.listOf (strValues l').toArray ep') → l'.map (·.1) = out →
            wpAny (model prog w) A.in1 (do
              let text ← if ((← seqItems? (.ref D)).getD #[]).isEmpty then pure (Value.str ⟨x.cps.extract 0 0⟩ jt)
                else call (.builtin "str.join") [Value.str ⟨x.cps.extract 0 0⟩ jt, .ref D]
              ret text) (fun fin s' => match fin with | .done f => R (.ok f) s' | .again c' => c'.quiet = true ∧ codeAny (model prog w) A c' R s') (fun e s' => R (.error e) s') { s with heap := h', toks := tk' } := by
          intro l' ep' h' tk' jt hs hD' ho2
          refine wpAny_bind (wpAny_seqItems hD' rfl ?_)
          have ej : (⟨x.cps.extract 0 0⟩ : Str) = ⟨#[]⟩ := by simp
          rw [ej]
          show wpAny _ _ (if (strValues l').toArray.isEmpty then _ else _ >>= _) _ _ _
          match l', ho2, hD' with
          | [], ho2, hD' =>
            subst ho2
            exact wpAny_pure (hR _ _ _ hs)
          | y :: l2, ho2, hD' =>
            rw [if_neg (by simp [strValues])]
            refine wpAny_bind (call_meets PySem.F.slot_str_join rfl PySem.F.entry_str_join (PySem.F.args_str_join_2 _ _) (meets_str_join_list _ _ D (y :: l2) (by rw [ho2]; exact hlong)) ⟨⟨_, hD', rfl, _, rfl⟩, ?_⟩)
            match l2, ho2 with
            | [], ho2 =>
              subst ho2
              show wpAny _ _ (ret _) _ _ _
              exact wpAny_pure (hR _ _ _ hs)
            | z :: l3, ho2 =>
              subst ho2
              exact ⟨hgl, wpAny_pure (hR _ _ _ hs)⟩
        by_cases hlt : done < x.cps.size
        · rw [if_pos hlt] at hout hlen
          simp only [Int.toNat_natCast, hlt, if_true]
          refine wpAny_bind (wpAny_mkStr (hx := hsm _ _) ?_)
          refine wpAny_bind (wp_push hl1 hD fun h1 s1 D1 => ?_)
          refine wpAny_bind (wpAny_mkStr (hx := hsm _ _) ?_)
          exact fin _ _ _ _ _ s1 D1 (by rw [← hout]; simp [sliceP])
        · rw [if_neg hlt] at hout hlen
          simp only [Int.toNat_natCast, hlt, if_false]
          refine wpAny_bind (wpAny_mkStr (hx := hsm _ _) ?_)
          exact fin _ _ _ _ _ (Heap.SameBut.refl ..) hD (by rw [← hout]; simp)
      · simp [h1, h2] at e
theorem slot_sub : Slot "re.Pattern" (Str.ofString "sub") "re.Pattern.sub" :=
  .of (owner := "re.Pattern") (n := "sub") (by rw [typeLookup_type, builtinLookup_eq_fast]; kernel_rfl) (by decide +kernel) (by decide +kernel) (by decide +kernel)
    (by first | exact .inl (by decide +kernel) | exact .inr (by decide +kernel)) (by rw [isSubtype_type]; kernel_rfl)
theorem type_sub : typeOf (.builtin "re.Pattern.sub") = pure (.type "method_descriptor") := by show builtinType _ = _; rw [builtinType_eq_fast]; kernel_rfl
theorem no_call : typeLookup (.type "str") (Str.ofString "__call__") = pure none := by rw [typeLookup_type, builtinLookup_eq_fast]; kernel_rfl
set_option maxHeartbeats 8000000 in
theorem sub_meets (p c : Addr) (src fl : Value) (codes : List Value) (n : Nat) (x r : Str) (t u : Tok) (out : List Str) (hgl : (PySem.Builtin.Str.glued ⟨#[]⟩ out).length ≤ sizeLine) (hxs : x.cps.size < 1000) (f : Nat) (hr : r.cps.contains 92 = false)
   (e : subF (codeOf codes) x r f 0 0 false = some out) (hlen : out.length < 1000) (hlong : PySem.Builtin.Str.tooLong (out.toArray.foldl (· + ·.length + 0) 0) = false) :
   Meets (Builtin.«re.Pattern.sub» ⟨[.ref p, .str r u, .str x t], []⟩) (fun _ R s => s.heap.get? p = some (patO src fl (.ref c)) ∧ s.heap.get? c = some (tupO codes n) ∧
     ∀ h' tk t', (∀ b o, s.heap.get? b = some o → h'.get? b = some o) → R (.ok (.ret (.str (PySem.Builtin.Str.glued ⟨#[]⟩ out) t'))) { s with heap := h', toks := tk }) :=
  fun prog w A R s h => by
    obtain ⟨hp, g, d, tk, os⟩ := s; obtain ⟨h1, h2, h⟩ := h
    show wpAny _ _ (reSubstitute _ _ _ _) _ _ _
    unfold reSubstitute
    wp_walk
    rw [no_call]
    wp_walk
    simp only [hr, Bool.not_false, if_true]
    wp_walk
    have hD : (hp.push { cls := .type "list", data := .seq #[] }).get? hp.objs.size = some { cls := .type "list", data := .seq #[] } := Heap.get?_push_size _ rfl
    have np : p ≠ hp.objs.size := Nat.ne_of_lt (Heap.lt_size h1)
    have nc : c ≠ hp.objs.size := Nat.ne_of_lt (Heap.lt_size h2)
    refine ⟨plainId_quiet plain_sub_loop _, sub_loop p c hp.objs.size src fl codes n x r t u out hgl hxs f 0 0 0 _ _ _ false [] 0 out _ e np nc (Heap.get?_push_of_some _ h1) (Heap.get?_push_of_some _ h2) hD (by simpa using hlen) rfl hlong fun h' tk' t' hs => h h' tk' t' fun b o hb => ?_⟩
    rw [hs.2 b (Nat.ne_of_lt (Heap.lt_size hb))]
    exact Heap.get?_push_of_some _ hb
end Mine
end
section
open PySem PySem.W PySem.Calls PyProof.Rows PySem.Builtin PySem.Builtin.Re
namespace Mine
theorem plainAttrs_pat : PlainAttrs "re.Pattern" :=
  ⟨⟨"object.__getattribute__", by rw [typeLookup_type, builtinLookup_eq_fast]; kernel_rfl, by decide +kernel⟩, by rw [typeLookup_type, builtinLookup_eq_fast]; kernel_rfl⟩
theorem args_search (a b : Value) : argsOk "re.Pattern.search" ⟨[a, b], []⟩ := by unfold argsOk; kernel_rfl
theorem args_sub (a b c : Value) : argsOk "re.Pattern.sub" ⟨[a, b, c], []⟩ := by unfold argsOk; kernel_rfl
section
variable {prog : Program} {w : World} {A : Around} {E : Value → Shared → Prop} {s : Shared} {h₀ : Heap} {L p c : Addr} {m : Str → Option Value} {news : List (Addr × Obj)} {K : Frag} {src fl : Value} {codes : List Value} {n : Nat}
theorem search_method {pl : Sem Bool} {Q : Value × List Value → Shared → Prop} (F : Fr h₀ L s.heap m) (X : K.In h₀) (hp : K.lookup p = some (patO src fl (.ref c))) (h : Q (.builtin "re.Pattern.search", [.ref p]) s) :
    wpAny (model prog w) A (getMethod (.ref p) (Str.ofString "search") pl) Q E s :=
  getMethod_builtin ⟨_, F.keep _ _ (X _ _ hp), rfl⟩ plainAttrs_pat slot_search type_search (fun a e => by cases e; exact ⟨_, F.keep _ _ (X _ _ hp), rfl⟩) h
theorem sub_method {pl : Sem Bool} {Q : Value × List Value → Shared → Prop} (F : Fr h₀ L s.heap m) (X : K.In h₀) (hp : K.lookup p = some (patO src fl (.ref c))) (h : Q (.builtin "re.Pattern.sub", [.ref p]) s) :
    wpAny (model prog w) A (getMethod (.ref p) (Str.ofString "sub") pl) Q E s :=
  getMethod_builtin ⟨_, F.keep _ _ (X _ _ hp), rfl⟩ plainAttrs_pat slot_sub type_sub (fun a e => by cases e; exact ⟨_, F.keep _ _ (X _ _ hp), rfl⟩) h
theorem search_call {x : Str} {t : Tok} {Q : Value → Shared → Prop} (F : Fr h₀ L s.heap m) (X : K.In h₀) (hp : K.lookup p = some (patO src fl (.ref c))) (hc : K.lookup c = some (tupO codes n))
    (e : outc (Sre.M.runFor 400 (Sre.forSearch (codeOf codes) x.cps 0 (min (0 : Int).toNat x.cps.size) (min (2^63-1 : Int).toNat x.cps.size) false)).outcome = 2) (h : Q .none s) :
    wpAny (model prog w) A (call (.builtin "re.Pattern.search") [.ref p, .str x t]) Q E s :=
  call_meets slot_search ⟨_, F.keep _ _ (X _ _ hp), rfl⟩ entry_search (args_search _ _) (search_meets p c src fl codes n x t 99 _ (by decide) rfl (outc2 e)) ⟨F.keep _ _ (X _ _ hp), F.keep _ _ (X _ _ hc), h⟩
theorem sub_call {x r : Str} {t u : Tok} {Q : Value → Shared → Prop} (out : List Str) (f : Nat) (F : Fr h₀ L s.heap m) (N : News h₀ L s.heap news) (X : K.In h₀) (hp : K.lookup p = some (patO src fl (.ref c))) (hc : K.lookup c = some (tupO codes n))
    (hgl : (PySem.Builtin.Str.glued ⟨#[]⟩ out).length ≤ sizeLine) (hxs : x.cps.size < 1000) (hr : r.cps.contains 92 = false)
    (e : subF (codeOf codes) x r f 0 0 false = some out) (hlen : out.length < 1000) (hlong : PySem.Builtin.Str.tooLong (out.toArray.foldl (· + ·.length + 0) 0) = false)
    (h : ∀ h' tk t', Fr h₀ L h' m → News h₀ L h' news → Q (.str (PySem.Builtin.Str.glued ⟨#[]⟩ out) t') { s with heap := h', toks := tk }) :
    wpAny (model prog w) A (call (.builtin "re.Pattern.sub") [.ref p, .str r u, .str x t]) Q E s :=
  call_meets slot_sub ⟨_, F.keep _ _ (X _ _ hp), rfl⟩ entry_sub (args_sub _ _ _) (sub_meets p c src fl codes n x r t u out hgl hxs f hr e hlen hlong)
    ⟨F.keep _ _ (X _ _ hp), F.keep _ _ (X _ _ hc), fun h' tk t' hk => h h' tk t' (F.keeps hk) (fun q hq => ⟨hk _ _ (N q hq).1, (N q hq).2⟩)⟩
end
end Mine
end
section
open PySem PySem.Sre
namespace Mine
noncomputable def dotC : Array Nat := #[14, 4, 0, 1, 1, 6, 1, 16, 46, 1]
/-- the machine of the dot pattern, about to try at p -/
noncomputable def dotM (x : Array Nat) (p : Nat) (ma fst : Bool) (sn : Sre.Seen) : M :=
  { code := dotC, text := x, lim := x.size, start := p, lastStart := x.size, mustAdvance := ma, pc := 5, pos := p, handed := p, outermost := fst, marks := #[], frames := [{ wait := .nextStart, pc := 5, pos := p, outermost := fst }], weight := 1, seen := sn }
theorem run_step {m : M} (n : Nat) (h : m.outcome = none) : M.runFor (n + 1) m = M.runFor n m.step := by
  show (if m.outcome.isSome then m else _) = _
  rw [h]; rfl
theorem dot_start (x : Array Nat) (p : Nat) (ma : Bool) (h : p + 1 ≤ x.size) : ∃ sn, forSearch dotC x 0 p x.size ma = dotM x p ma true sn := by
  refine ⟨({} : Sre.Seen).add 14, ?_⟩
  have hc : (decide (p > x.size) || decide (x.size - p < (header dotC).1)) = false := by
    have : (header dotC).1 = 1 := rfl
    rw [this, Bool.or_eq_false_iff]
    exact ⟨decide_eq_false (by omega), decide_eq_false (by omega)⟩
  unfold forSearch
  show (if (decide (p > x.size) || decide (x.size - p < (header dotC).1)) = true then _ else _) = _
  rw [hc]
  rfl
theorem dot_off (x : Array Nat) (p : Nat) (ma fst : Bool) (sn : Sre.Seen) (h0 : p ≠ 0) (h1 : x.getD (p - 1) 0 ≠ 10) (h : p < x.size) : ∃ sn', ∀ n, M.runFor (n + 2) (dotM x p ma fst sn) = M.runFor n (dotM x (p + 1) false false sn') := by
  refine ⟨(sn.add 6).add 44, fun n => ?_⟩
  have e : (p == 0 || x.getD (p - 1) 0 == 10) = false := by
    rw [Bool.or_eq_false_iff]
    exact ⟨beq_eq_false_iff_ne.mpr h0, beq_eq_false_iff_ne.mpr h1⟩
  have e1 : M.step (dotM x p ma fst sn) = M.say { dotM x p ma fst sn with seen := (sn.add 6).add 44 } false := by
    show (match (Except.ok (p == 0 || x.getD (p - 1) 0 == 10) : Except String Bool) with | .error why => M.stick { dotM x p ma fst sn with seen := sn.add 6 } why | .ok yes => if yes then { dotM x p ma fst sn with seen := (sn.add 6).add 44, pc := 7 } else M.say { dotM x p ma fst sn with seen := (sn.add 6).add 44 } false) = _
    rw [e]
    rfl
  rw [run_step _ rfl, e1, run_step _ rfl]
  congr 1
  show (if p < x.size then _ else _) = _
  rw [if_pos h]
  rfl
theorem dot_hit (x : Array Nat) (p : Nat) (ma fst : Bool) (sn : Sre.Seen) (h0 : p = 0 ∨ x.getD (p - 1) 0 = 10) (h1 : x.getD p 0 = 46) (h : p < x.size) : ∃ m, m.outcome = some .matched ∧ m.start = p ∧ m.handed = p + 1 ∧ ∀ n, M.runFor (n + 5) (dotM x p ma fst sn) = m := by
  have e : (p == 0 || x.getD (p - 1) 0 == 10) = true := by
    rw [Bool.or_eq_true]
    rcases h0 with h0 | h0
    · exact .inl (beq_iff_eq.mpr h0)
    · exact .inr (beq_iff_eq.mpr h0)
  have e1 : M.step (dotM x p ma fst sn) = { dotM x p ma fst ((sn.add 6).add 44) with pc := 7 } := by
    show (match (Except.ok (p == 0 || x.getD (p - 1) 0 == 10) : Except String Bool) with | .error why => M.stick { dotM x p ma fst sn with seen := sn.add 6 } why | .ok yes => if yes then { dotM x p ma fst sn with seen := (sn.add 6).add 44, pc := 7 } else M.say { dotM x p ma fst sn with seen := (sn.add 6).add 44 } false) = _
    rw [e]
    rfl
  have e2 : ∀ sn, M.step { dotM x p ma fst sn with pc := 7 } = { dotM x p ma fst (sn.add 16) with pc := 9, pos := p + 1 } := by
    intro sn
    show (if p ≥ x.size then _ else match (Except.ok (x.getD p 0 == 46, sn.add 16) : Except String (Bool × Sre.Seen)) with | .error why => M.stick { dotM x p ma fst (sn.add 16) with pc := 7 } why | .ok (false, seen) => M.say { dotM x p ma fst seen with pc := 7 } false | .ok (true, seen) => { dotM x p ma fst seen with pc := 7 + 2, pos := p + 1 }) = _
    rw [if_neg (by omega), h1]
    rfl
  have e3 : ∀ sn, M.step { dotM x p ma fst sn with pc := 9, pos := p + 1 } = M.say { dotM x p ma fst (sn.add 1) with pc := 9, pos := p + 1, handed := p + 1 } true := by
    intro sn
    show (if (fst && ((false && _) || (ma && p + 1 == p))) = true then _ else _) = _
    have : (p + 1 == p) = false := beq_eq_false_iff_ne.mpr (by omega)
    rw [this]
    simp
    rfl
  refine ⟨M.step (M.step (M.say { dotM x p ma fst (((((sn.add 6).add 44)).add 16).add 1) with pc := 9, pos := p + 1, handed := p + 1 } true)), rfl, rfl, rfl, fun n => ?_⟩
  rw [run_step _ rfl, e1, run_step _ rfl]
  rw [e2, run_step _ rfl, e3, run_step _ rfl, run_step _ rfl, runFor_done rfl]
/-- past the last place: nothing is found -/
theorem dot_end (x : Array Nat) (fst : Bool) (ma : Bool) (sn : Sre.Seen) (h0 : x.size ≠ 0) : ∃ m, m.outcome = some .failed ∧ ∀ n, M.runFor (n + 4) (dotM x x.size ma fst sn) = m := by
  by_cases hl : x.getD (x.size - 1) 0 = 10
  · have e : (x.size == 0 || x.getD (x.size - 1) 0 == 10) = true := by
      rw [Bool.or_eq_true]
      exact .inr (beq_iff_eq.mpr hl)
    have e1 : M.step (dotM x x.size ma fst sn) = { dotM x x.size ma fst ((sn.add 6).add 44) with pc := 7 } := by
      show (match (Except.ok (x.size == 0 || x.getD (x.size - 1) 0 == 10) : Except String Bool) with | .error why => M.stick { dotM x x.size ma fst sn with seen := sn.add 6 } why | .ok yes => if yes then { dotM x x.size ma fst sn with seen := (sn.add 6).add 44, pc := 7 } else M.say { dotM x x.size ma fst sn with seen := (sn.add 6).add 44 } false) = _
      rw [e]
      rfl
    have e2 : ∀ sn, M.step { dotM x x.size ma fst sn with pc := 7 } = M.say { dotM x x.size ma fst (sn.add 16) with pc := 7 } false := by
      intro sn
      show (if x.size ≥ x.size then M.say { dotM x x.size ma fst (sn.add 16) with pc := 7 } false else _) = _
      rw [if_pos (Nat.le_refl _)]
    have e3 : ∀ sn, M.step (M.say { dotM x x.size ma fst sn with pc := 7 } false) = M.say { dotM x x.size ma fst sn with frames := [], weight := 0 } false := by
      intro sn
      show (if x.size < x.size then _ else _) = _
      rw [if_neg (Nat.lt_irrefl _)]
      rfl
    refine ⟨M.step (M.say { dotM x x.size ma fst ((((sn.add 6).add 44)).add 16) with frames := [], weight := 0 } false), rfl, fun n => ?_⟩
    rw [run_step _ rfl, e1, run_step _ rfl]
    rw [e2, run_step _ rfl, e3, run_step _ rfl, runFor_done rfl]
  · have e : (x.size == 0 || x.getD (x.size - 1) 0 == 10) = false := by
      rw [Bool.or_eq_false_iff]
      exact ⟨beq_eq_false_iff_ne.mpr h0, beq_eq_false_iff_ne.mpr hl⟩
    have e1 : M.step (dotM x x.size ma fst sn) = M.say (dotM x x.size ma fst ((sn.add 6).add 44)) false := by
      show (match (Except.ok (x.size == 0 || x.getD (x.size - 1) 0 == 10) : Except String Bool) with | .error why => M.stick { dotM x x.size ma fst sn with seen := sn.add 6 } why | .ok yes => if yes then { dotM x x.size ma fst sn with seen := (sn.add 6).add 44, pc := 7 } else M.say { dotM x x.size ma fst sn with seen := (sn.add 6).add 44 } false) = _
      rw [e]
      rfl
    have e3 : ∀ sn, M.step (M.say (dotM x x.size ma fst sn) false) = M.say { dotM x x.size ma fst sn with frames := [], weight := 0 } false := by
      intro sn
      show (if x.size < x.size then _ else _) = _
      rw [if_neg (Nat.lt_irrefl _)]
      rfl
    refine ⟨M.step (M.say { dotM x x.size ma fst ((sn.add 6).add 44) with frames := [], weight := 0 } false), rfl, fun n => ?_⟩
    rw [run_step _ rfl, e1, run_step _ rfl, e3, run_step _ rfl, runFor_done rfl]
/-- a scan over places that are no line starts -/
theorem dot_scan (x : Array Nat) : ∀ (j p : Nat) (ma fst : Bool) (sn : Sre.Seen), p ≠ 0 → p + j ≤ x.size → (∀ q, p ≤ q → q < p + j → x.getD (q - 1) 0 ≠ 10) → ∃ ma' fst' sn', ∀ n, M.runFor (n + 2 * j) (dotM x p ma fst sn) = M.runFor n (dotM x (p + j) ma' fst' sn')
  | 0, p, ma, fst, sn, _, _, _ => ⟨ma, fst, sn, fun n => rfl⟩
  | j + 1, p, ma, fst, sn, h0, hl, h => by
    obtain ⟨sn1, e1⟩ := dot_off x p ma fst sn h0 (h p (Nat.le_refl _) (by omega)) (by omega)
    obtain ⟨ma', fst', sn', e2⟩ := dot_scan x j (p + 1) false false sn1 (by omega) (by omega) (fun q h1 h2 => h q (by omega) (by omega))
    refine ⟨ma', fst', sn', fun n => ?_⟩
    have : n + 2 * (j + 1) = (n + 2 * j) + 2 := by omega
    rw [this, e1, e2, Nat.add_right_comm p 1 j, Nat.add_assoc]
end Mine
end
section
open PySem PySem.Sre
namespace Mine
theorem found_next (x : PySem.Str) (s q : Nat) (must : Bool) (h0 : s = q ∨ s ≠ 0) (hs : s ≤ q) (hn : ∀ r, s ≤ r → r < q → x.cps.getD (r - 1) 0 ≠ 10) (h1 : q = 0 ∨ x.cps.getD (q - 1) 0 = 10) (h2 : x.cps.getD q 0 = 46) (h3 : q < x.cps.size) (h4 : 2 * (q - s) + 5 ≤ 400) :
    (found dotC x s must).outcome = some .matched ∧ (found dotC x s must).start = q ∧ (found dotC x s must).handed = q + 1 := by
  obtain ⟨sn, e⟩ := dot_start x.cps s must (by omega)
  have : ∃ ma fst sn', ∀ n, M.runFor (n + 2 * (q - s)) (dotM x.cps s must true sn) = M.runFor n (dotM x.cps q ma fst sn') := by
    rcases h0 with h0 | h0
    · subst h0
      exact ⟨_, _, _, fun n => by rw [Nat.sub_self]; rfl⟩
    · obtain ⟨ma, fst, sn', e2⟩ := dot_scan x.cps (q - s) s must true sn h0 (by omega) (fun r a b => hn r a (by omega))
      refine ⟨ma, fst, sn', fun n => ?_⟩
      rw [e2]
      congr 2
      omega
  obtain ⟨ma, fst, sn', e2⟩ := this
  obtain ⟨m, a, b, c, e3⟩ := dot_hit x.cps q ma fst sn' h1 h2 h3
  have e4 : found dotC x s must = m := by
    unfold found
    rw [e]
    have : 400 = ((400 - 2 * (q - s) - 5) + 5) + 2 * (q - s) := by omega
    rw [this, e2, e3]
  rw [e4]
  exact ⟨a, b, c⟩
theorem found_none (x : PySem.Str) (s : Nat) (must : Bool) (h0 : s ≠ 0) (hs : s ≤ x.cps.size) (hn : ∀ r, s ≤ r → r < x.cps.size → x.cps.getD (r - 1) 0 ≠ 10) (h4 : 2 * (x.cps.size - s) + 4 ≤ 400) : (found dotC x s must).outcome = some .failed := by
  rcases Nat.lt_or_ge s x.cps.size with hl | hl
  · obtain ⟨sn, e⟩ := dot_start x.cps s must (by omega)
    obtain ⟨ma, fst, sn', e2⟩ := dot_scan x.cps (x.cps.size - s) s must true sn h0 (by omega) (fun r a b => hn r a (by omega))
    have e2' : ∀ n, M.runFor (n + 2 * (x.cps.size - s)) (dotM x.cps s must true sn) = M.runFor n (dotM x.cps x.cps.size ma fst sn') := fun n => by
      rw [e2]
      congr 2
      omega
    obtain ⟨m, a, e3⟩ := dot_end x.cps fst ma sn' (by omega)
    have e4 : found dotC x s must = m := by
      unfold found
      rw [e]
      have : 400 = ((400 - 2 * (x.cps.size - s) - 4) + 4) + 2 * (x.cps.size - s) := by omega
      rw [this, e2', e3]
    rw [e4]; exact a
  · have hc : (decide (s > x.cps.size) || decide (x.cps.size - s < (header dotC).1)) = true := by
      have : (header dotC).1 = 1 := rfl
      rw [this, Bool.or_eq_true]
      exact .inr (decide_eq_true (by omega))
    unfold found forSearch
    show (M.runFor 400 (if (decide (s > x.cps.size) || decide (x.cps.size - s < (header dotC).1)) = true then _ else _)).outcome = _
    rw [hc]
    rfl
end Mine
end
section
open PySem PySem.Sre
namespace Mine
/-- rows behind a first tail: a line end and a dot before each -/
noncomputable def bodyT (tl : List Nat) : List (List Nat) → List Nat
  | [] => tl
  | t :: ts => tl ++ [13, 10, 46] ++ bodyT t ts
noncomputable def piecesT (tl : List Nat) : List (List Nat) → List PySem.Str
  | [] => if tl.length ≠ 0 then [⟨tl.toArray⟩] else []
  | t :: ts => ⟨(tl ++ [13, 10]).toArray⟩ :: ⟨#[46, 46]⟩ :: piecesT t ts
theorem getD_list (l : List Nat) (i : Nat) : l.toArray.getD i 0 = l.getD i 0 := by
  simp [List.getD]
theorem getD_pre (pre suf : List Nat) (i : Nat) : (pre ++ suf).toArray.getD (pre.length + i) 0 = suf.getD i 0 := by
  rw [getD_list, List.getD, List.getD, List.getElem?_append_right (by omega), Nat.add_sub_cancel_left]
theorem pre_off (pre suf : List Nat) (hp : pre ≠ []) (hl : pre.getLast hp = 46) (hs : ∀ c ∈ suf, c ≠ 10) (r : Nat) (h1 : pre.length ≤ r) (h2 : r < pre.length + suf.length + 1) : (pre ++ suf).toArray.getD (r - 1) 0 ≠ 10 := by
  have hp0 : pre.length ≠ 0 := fun e => hp (List.length_eq_zero_iff.mp e)
  rcases Nat.lt_or_ge (r - 1) pre.length with h | h
  · have e : r - 1 = pre.length - 1 := by omega
    rw [getD_list, e, List.getD, List.getElem?_append_left (by omega), List.getElem?_eq_getElem (by omega), ← List.getLast_eq_getElem hp, hl]
    decide
  · have e : r - 1 = pre.length + (r - 1 - pre.length) := by omega
    rw [e, getD_pre, List.getD, List.getElem?_eq_getElem (by omega)]
    exact hs _ (List.getElem_mem _)
theorem found_rows_last (x : PySem.Str) (pre tl : List Nat) (must : Bool) (hx : x.cps = (pre ++ tl).toArray) (hp : pre ≠ []) (hl : pre.getLast hp = 46) (htl : ∀ c ∈ tl, c ≠ 10) (hs : x.cps.size ≤ 190) : (found dotC x pre.length must).outcome = some .failed := by
  have hz : x.cps.size = pre.length + tl.length := by rw [hx]; simp
  have hp0 : pre.length ≠ 0 := fun e => hp (List.length_eq_zero_iff.mp e)
  refine found_none x _ must hp0 (by omega) ?_ (by omega)
  intro r h1 h2
  rw [hx]
  exact pre_off pre tl hp hl htl r h1 (by omega)
end Mine
end
section
open PySem PySem.Sre
namespace Mine
theorem outc_m {o : Option Sre.Outcome} (h : o = some .matched) : outc o = 1 := by subst h; rfl
theorem outc_f {o : Option Sre.Outcome} (h : o = some .failed) : outc o = 2 := by subst h; rfl
theorem sliceP_mid {x : PySem.Str} (a b c : List Nat) (hx : x.cps = (a ++ b ++ c).toArray) {i j : Nat} (hi : i = a.length) (hj : j = a.length + b.length) : sliceP x i j = ⟨b.toArray⟩ := by
  subst hi hj
  unfold sliceP
  rw [hx]
  simp [List.extract_eq_drop_take]
theorem at_mid {x : PySem.Str} (a : List Nat) (v : Nat) (c : List Nat) (hx : x.cps = (a ++ v :: c).toArray) {i : Nat} (hi : i = a.length) : x.cps.getD i 0 = v := by
  subst hi
  rw [hx]
  simp
theorem at_in {x : PySem.Str} (a b c : List Nat) (hx : x.cps = (a ++ b ++ c).toArray) {P : Nat → Prop} (hb : ∀ v ∈ b, P v) {i : Nat} (h1 : a.length ≤ i) (h2 : i < a.length + b.length) : P (x.cps.getD i 0) := by
  have : x.cps.getD i 0 = b[i - a.length]'(by omega) := by
    rw [hx, getD_list, List.getD]
    rw [List.getElem?_append_left (by simp; omega), List.getElem?_append_right h1, List.getElem?_eq_getElem (by omega)]
    rfl
  rw [this]
  exact hb _ (List.getElem_mem _)
theorem dot_sub (x : PySem.Str) (hs : x.cps.size ≤ 190) : ∀ (ts : List (List Nat)) (tl pre : List Nat) (must : Bool) (f : Nat), x.cps = (pre ++ bodyT tl ts).toArray → (hp : pre ≠ []) → pre.getLast hp = 46 → (∀ c ∈ tl, c ≠ 10) → (∀ t ∈ ts, ∀ c ∈ t, c ≠ 10) → ts.length < f →
    subF dotC x ⟨#[46, 46]⟩ f pre.length pre.length must = some (piecesT tl ts)
  | [], tl, pre, must, f + 1, hx, hp, hl, htl, _, _ => by
    have hz : x.cps.size = pre.length + tl.length := by rw [hx]; simp [bodyT]
    have h2 := outc_f (found_rows_last x pre tl must (by rw [hx, bodyT]) hp hl htl hs)
    unfold subF
    simp only [h2]
    rw [if_neg (by decide), if_pos trivial, piecesT]
    by_cases h : tl.length ≠ 0
    · rw [if_pos (by omega), if_pos h, sliceP_mid pre tl [] (by rw [hx, bodyT, List.append_nil]) rfl hz]
    · rw [if_neg (by omega), if_neg h]
  | t :: ts, tl, pre, must, f + 1, hx, hp, hl, htl, hts, hf => by
    have hp0 : pre.length ≠ 0 := fun e => hp (List.length_eq_zero_iff.mp e)
    have e1 : pre ++ bodyT tl (t :: ts) = (pre ++ tl ++ [13, 10, 46]) ++ bodyT t ts := by simp [bodyT]
    have hz : pre.length + tl.length + 3 ≤ x.cps.size := by rw [hx, e1]; simp; omega
    obtain ⟨m1, m2, m3⟩ := found_next x pre.length (pre.length + tl.length + 2) must (.inr hp0) (by omega)
      (fun r h1 h2 => by
        have e2 : pre ++ bodyT tl (t :: ts) = pre.dropLast ++ ([46] ++ tl ++ [13]) ++ (10 :: 46 :: bodyT t ts) := by
          have : pre = pre.dropLast ++ [46] := by rw [← hl, List.dropLast_concat_getLast]
          rw [e1]
          conv => lhs; rw [this]
          simp
        refine at_in (P := fun v => v ≠ 10) _ _ _ (hx.trans (congrArg List.toArray e2)) ?_ ?_ ?_
        · simp only [List.mem_append, List.mem_singleton]
          rintro v ((rfl | h) | rfl)
          · decide
          · exact htl v h
          · decide
        · rw [List.length_dropLast]; omega
        · rw [List.length_dropLast]; simp; omega)
      (.inr (at_mid (pre ++ tl ++ [13]) 10 (46 :: bodyT t ts) (by rw [hx, e1]; simp) (by simp; omega)))
      (at_mid (pre ++ tl ++ [13, 10]) 46 (bodyT t ts) (by rw [hx, e1]; simp) (by simp; omega)) (by omega) (by omega)
    unfold subF
    simp only [outc_m m1, m2, m3]
    rw [if_pos trivial, if_pos (by omega), sliceP_mid pre (tl ++ [13, 10]) (46 :: bodyT t ts) (by rw [hx, e1]; simp) rfl (by simp; omega)]
    have e3 : pre.length + tl.length + 2 + 1 = (pre ++ tl ++ [13, 10, 46]).length := by simp; omega
    rw [e3, dot_sub x hs ts t (pre ++ tl ++ [13, 10, 46]) _ f (by rw [hx, e1]) (by simp) (by simp) (hts t (.head _)) (fun t' h => hts t' (.tail _ h)) (by simp at hf; omega)]
    simp [piecesT]
end Mine
end
section
open PySem PySem.Sre
namespace Mine
noncomputable def endC : Array Nat := #[14, 9, 4, 1, 2, 16, 10, 16, 13, 0, 7, 7, 16, 13, 16, 10, 15, 18, 5, 16, 10, 15, 13, 11, 16, 13, 5, 5, 0, 16, 10, 1, 15, 2, 0, 1]
/-- the machine of the ends' pattern, tried at q -/
noncomputable def eM (x : Array Nat) (q pc pos hd : Nat) (out : Bool) (fr : List Sre.Frame) (wt : Nat) (ans : Option Bool) (sn : Sre.Seen) : M :=
  { code := endC, text := x, lim := x.size, start := q, lastStart := x.size, mustAdvance := false, pc := pc, pos := pos, handed := hd, outermost := out, marks := #[], frames := fr, weight := wt, answer := ans, seen := sn }
noncomputable def fS (q : Nat) : Sre.Frame := { wait := .nextStart, pc := 10, pos := q, outermost := true }
noncomputable def fB (q alt : Nat) : Sre.Frame := { wait := .nextBranch, pc := alt, pos := q, outermost := true, kept := { lastmark := -1, lastindex := -1, whole := false, marks := #[] } }
noncomputable def fL (q : Nat) : Sre.Frame := { wait := .lookNot, pc := 26, pos := q, outermost := true, kept := { lastmark := -1, lastindex := -1, whole := false, marks := #[] } }
section
variable {x : Array Nat} {q pos hd wt pc : Nat} {out : Bool} {fr : List Sre.Frame} {sn : Sre.Seen}
theorem e_lit_ok (c : Nat) (hp : pc = 12 ∧ c = 13 ∨ pc = 14 ∧ c = 10 ∨ pc = 19 ∧ c = 10 ∨ pc = 24 ∧ c = 13 ∨ pc = 29 ∧ c = 10) (h : pos < x.size) (hc : x.getD pos 0 = c) :
    M.step (eM x q pc pos hd out fr wt none sn) = eM x q (pc + 2) (pos + 1) hd out fr wt none (sn.add 16) := by
  have key : ∀ b : Bool, b = (x.getD pos 0 == c) → (if pos ≥ x.size then M.say (eM x q pc pos hd out fr wt none (sn.add 16)) false else match (Except.ok (b, sn.add 16) : Except String (Bool × Sre.Seen)) with | .error why => M.stick (eM x q pc pos hd out fr wt none (sn.add 16)) why | .ok (false, seen) => M.say (eM x q pc pos hd out fr wt none seen) false | .ok (true, seen) => eM x q (pc + 2) (pos + 1) hd out fr wt none seen) = eM x q (pc + 2) (pos + 1) hd out fr wt none (sn.add 16) := by
    rintro b rfl
    rw [if_neg (by omega), hc, beq_self_eq_true]
  rcases hp with ⟨rfl, rfl⟩ | ⟨rfl, rfl⟩ | ⟨rfl, rfl⟩ | ⟨rfl, rfl⟩ | ⟨rfl, rfl⟩ <;> exact key _ rfl
theorem e_lit_no (c : Nat) (hp : pc = 12 ∧ c = 13 ∨ pc = 14 ∧ c = 10 ∨ pc = 19 ∧ c = 10 ∨ pc = 24 ∧ c = 13 ∨ pc = 29 ∧ c = 10) (hc : x.size ≤ pos ∨ x.getD pos 0 ≠ c) :
    M.step (eM x q pc pos hd out fr wt none sn) = eM x q pc pos hd out fr wt (some false) (sn.add 16) := by
  have key : ∀ b : Bool, b = (x.getD pos 0 == c) → (if pos ≥ x.size then M.say (eM x q pc pos hd out fr wt none (sn.add 16)) false else match (Except.ok (b, sn.add 16) : Except String (Bool × Sre.Seen)) with | .error why => M.stick (eM x q pc pos hd out fr wt none (sn.add 16)) why | .ok (false, seen) => M.say (eM x q pc pos hd out fr wt none seen) false | .ok (true, seen) => eM x q (pc + 2) (pos + 1) hd out fr wt none seen) = eM x q pc pos hd out fr wt (some false) (sn.add 16) := by
    rintro b rfl
    by_cases h : pos ≥ x.size
    · rw [if_pos h]; rfl
    · have hc : x.getD pos 0 ≠ c := by
        rcases hc with h' | h'
        · exact absurd h' h
        · exact h'
      rw [if_neg h, beq_eq_false_iff_ne.mpr hc]; rfl
  rcases hp with ⟨rfl, rfl⟩ | ⟨rfl, rfl⟩ | ⟨rfl, rfl⟩ | ⟨rfl, rfl⟩ | ⟨rfl, rfl⟩ <;> exact key _ rfl
theorem e_branch : M.step (eM x q 10 q q true [fS q] 1 none sn) = eM x q 12 q q true [fB q 11, fS q] 2 none (sn.add 7) := rfl
theorem e_alt2 {p h : Nat} {pc : Nat} : M.step (eM x q pc p h true [fB q 11, fS q] 2 (some false) sn) = eM x q 19 q q true [fB q 18, fS q] 2 none sn := rfl
theorem e_alt3 {p h : Nat} {pc : Nat} : M.step (eM x q pc p h true [fB q 18, fS q] 2 (some false) sn) = eM x q 24 q q true [fB q 23, fS q] 2 none sn := rfl
theorem e_jump {p h : Nat} {fr : List Sre.Frame} (hp : pc = 16 ∨ pc = 21 ∨ pc = 32) : M.step (eM x q pc p h true fr 2 none sn) = eM x q (if pc = 16 then 35 else if pc = 21 then 35 else 35) p h true fr 2 none (sn.add 15) := by
  rcases hp with rfl | rfl | rfl <;> rfl
theorem e_succ {p h : Nat} {fr : List Sre.Frame} : M.step (eM x q 35 p h true fr 2 none sn) = eM x q 35 p p true fr 2 (some true) (sn.add 1) := rfl
/-- what is found -/
noncomputable def eFin (x : Array Nat) (q p : Nat) (sn : Sre.Seen) : M := { eM x q 10 q p true [] 0 (some true) sn with outcome := some .matched }
/-- the way out -/
theorem e_out {p a : Nat} (n : Nat) : M.runFor (n + 4) (eM x q 35 p q true [fB q a, fS q] 2 none sn) = eFin x q p (sn.add 1) := by
  rw [run_step _ rfl, e_succ, run_step _ rfl, run_step _ rfl, run_step _ rfl, runFor_done rfl]
  rfl
theorem end_lf (h : q < x.size) (hc : x.getD q 0 = 10) : ∃ sn', ∀ n, M.runFor (n + 15) (eM x q 10 q q true [fS q] 1 none sn) = eFin x q (q + 1) sn' := by
  refine ⟨?_, fun n => ?_⟩
  rotate_left
  · rw [run_step _ rfl, e_branch, run_step _ rfl, e_lit_no 13 (by simp) (.inr (by rw [hc]; decide)), run_step _ rfl, e_alt2, run_step _ rfl, e_lit_ok 10 (by simp) h hc, run_step _ rfl, e_jump (by simp)]
    exact e_out (n + 6)
theorem end_crlf (h : q + 1 < x.size) (hc : x.getD q 0 = 13) (hd : x.getD (q + 1) 0 = 10) : ∃ sn', ∀ n, M.runFor (n + 15) (eM x q 10 q q true [fS q] 1 none sn) = eFin x q (q + 2) sn' := by
  refine ⟨?_, fun n => ?_⟩
  rotate_left
  · rw [run_step _ rfl, e_branch, run_step _ rfl, e_lit_ok 13 (by simp) (by omega) hc, run_step _ rfl, e_lit_ok 10 (by simp) h hd, run_step _ rfl, e_jump (by simp)]
    exact e_out (n + 7)
theorem e_not {p : Nat} {fr : List Sre.Frame} : M.step (eM x q 26 p q true fr 2 none sn) = eM x q 29 p p false (fL p :: fr) 3 none (sn.add 5) := rfl
theorem e_notback {p pos : Nat} {fr : List Sre.Frame} : M.step (eM x q 29 pos p false (fL p :: fr) 3 (some false) sn) = eM x q 32 p p true fr 2 none sn := rfl
theorem e_out' {p a h : Nat} (n : Nat) : M.runFor (n + 4) (eM x q 35 p h true [fB q a, fS q] 2 none sn) = eFin x q p (sn.add 1) := by
  rw [run_step _ rfl, e_succ, run_step _ rfl, run_step _ rfl, run_step _ rfl, runFor_done rfl]
  rfl
theorem end_cr (h : q < x.size) (hc : x.getD q 0 = 13) (hd : x.size ≤ q + 1 ∨ x.getD (q + 1) 0 ≠ 10) : ∃ sn', ∀ n, M.runFor (n + 15) (eM x q 10 q q true [fS q] 1 none sn) = eFin x q (q + 1) sn' := by
  refine ⟨?_, fun n => ?_⟩
  rotate_left
  · rw [run_step _ rfl, e_branch, run_step _ rfl, e_lit_ok 13 (by simp) h hc, run_step _ rfl, e_lit_no 10 (by simp) hd, run_step _ rfl, e_alt2, run_step _ rfl, e_lit_no 10 (by simp) (.inr (by rw [hc]; decide)), run_step _ rfl, e_alt3,
      run_step _ rfl, e_lit_ok 13 (by simp) h hc, run_step _ rfl, e_not, run_step _ rfl, e_lit_no 10 (by simp) hd, run_step _ rfl, e_notback, run_step _ rfl, e_jump (by simp)]
    exact e_out' n
end
end Mine
end
section
open PySem PySem.Sre
namespace Mine
theorem inSet_end (c : Nat) (n : Nat) (sn : Sre.Seen) : inSet endC c (n + 3) 5 true sn = if c == 10 then .ok (true, sn.add 16) else if c == 13 then .ok (true, (sn.add 16).add 16) else .ok (false, ((sn.add 16).add 16).add 0) := rfl
section
variable {x : Array Nat}
theorem adm_hit {m : M} (h1 : m.code = endC) (h2 : m.text = x) (h3 : m.lim = x.size) (q : Nat) (hq : q < x.size) (hc : x.getD q 0 = 10 ∨ x.getD q 0 = 13) : ∀ (j s fuel : Nat) (sn : Sre.Seen), s + j = q → j < fuel → (∀ r, s ≤ r → r < q → x.getD r 0 ≠ 10 ∧ x.getD r 0 ≠ 13) → ∃ sn', M.admitted m fuel s sn = .ok (some q, sn')
  | 0, s, fuel + 1, sn, e, _, _ => by
    have e : s = q := e
    subst e
    have h4 : inSet m.code (m.text.getD s 0) m.code.size 5 true sn = if x.getD s 0 == 10 then .ok (true, sn.add 16) else if x.getD s 0 == 13 then .ok (true, (sn.add 16).add 16) else .ok (false, ((sn.add 16).add 16).add 0) := by rw [h1, h2]; exact inSet_end _ 33 sn
    unfold M.admitted
    rw [if_neg (by omega), h4]
    rcases hc with hc | hc <;> rw [hc]
    · exact ⟨_, rfl⟩
    · exact ⟨_, rfl⟩
  | j + 1, s, fuel + 1, sn, e, hf, hn => by
    have h4 : inSet m.code (m.text.getD s 0) m.code.size 5 true sn = if x.getD s 0 == 10 then .ok (true, sn.add 16) else if x.getD s 0 == 13 then .ok (true, (sn.add 16).add 16) else .ok (false, ((sn.add 16).add 16).add 0) := by rw [h1, h2]; exact inSet_end _ 33 sn
    obtain ⟨a, b⟩ := hn s (Nat.le_refl _) (by omega)
    rw [beq_eq_false_iff_ne.mpr a, beq_eq_false_iff_ne.mpr b] at h4
    obtain ⟨sn', e'⟩ := adm_hit h1 h2 h3 q hq hc j (s + 1) fuel (((sn.add 16).add 16).add 0) (by omega) (by omega) (fun r a b => hn r (by omega) b)
    refine ⟨sn', ?_⟩
    unfold M.admitted
    rw [if_neg (by omega), h4]
    exact e'
theorem adm_none {m : M} (h1 : m.code = endC) (h2 : m.text = x) (h3 : m.lim = x.size) : ∀ (j s fuel : Nat) (sn : Sre.Seen), s + j = x.size → j < fuel → (∀ r, s ≤ r → r < x.size → x.getD r 0 ≠ 10 ∧ x.getD r 0 ≠ 13) → ∃ sn', M.admitted m fuel s sn = .ok (none, sn')
  | 0, s, fuel + 1, sn, e, _, _ => by
    have e : s = x.size := e
    unfold M.admitted
    rw [if_pos (by omega)]
    exact ⟨_, rfl⟩
  | j + 1, s, fuel + 1, sn, e, hf, hn => by
    have h4 : inSet m.code (m.text.getD s 0) m.code.size 5 true sn = if x.getD s 0 == 10 then .ok (true, sn.add 16) else if x.getD s 0 == 13 then .ok (true, (sn.add 16).add 16) else .ok (false, ((sn.add 16).add 16).add 0) := by rw [h1, h2]; exact inSet_end _ 33 sn
    obtain ⟨a, b⟩ := hn s (Nat.le_refl _) (by omega)
    rw [beq_eq_false_iff_ne.mpr a, beq_eq_false_iff_ne.mpr b] at h4
    obtain ⟨sn', e'⟩ := adm_none h1 h2 h3 j (s + 1) fuel (((sn.add 16).add 16).add 0) (by omega) (by omega) (fun r a b => hn r (by omega) b)
    refine ⟨sn', ?_⟩
    unfold M.admitted
    rw [if_neg (by omega), h4]
    exact e'
end
/-- the machine of the ends' pattern at the start -/
noncomputable def e0 (x : Array Nat) (s : Nat) (ma : Bool) (sn : Sre.Seen) : M := { code := endC, text := x, lim := x.size, start := s, lastStart := x.size, mustAdvance := ma, pc := 10, pos := s, handed := s, outermost := true, marks := #[], frames := [], weight := 0, seen := sn }
theorem end_start (x : Array Nat) (s : Nat) (ma : Bool) (h : s + 1 ≤ x.size) : ∃ sn, forSearch endC x 0 s x.size ma = M.attemptFrom (e0 x s ma sn) s true := by
  refine ⟨({} : Sre.Seen).add 14, ?_⟩
  have hc : (decide (s > x.size) || decide (x.size - s < (header endC).1)) = false := by
    have : (header endC).1 = 1 := rfl
    rw [this, Bool.or_eq_false_iff]
    exact ⟨decide_eq_false (by omega), decide_eq_false (by omega)⟩
  unfold forSearch
  show (if (decide (s > x.size) || decide (x.size - s < (header endC).1)) = true then _ else _) = _
  rw [hc]
  rfl
theorem from_hit (x : Array Nat) (s q : Nat) (ma : Bool) (sn : Sre.Seen) (hs : s ≤ q) (hq : q < x.size) (hc : x.getD q 0 = 10 ∨ x.getD q 0 = 13) (hn : ∀ r, s ≤ r → r < q → x.getD r 0 ≠ 10 ∧ x.getD r 0 ≠ 13) : ∃ sn', M.attemptFrom (e0 x s ma sn) s true = eM x q 10 q q true [fS q] 1 none sn' := by
  obtain ⟨sn', e⟩ := adm_hit (m := e0 x s ma sn) rfl rfl rfl q hq hc (q - s) s (x.size + 1 - s) sn (by omega) (by omega) hn
  refine ⟨sn', ?_⟩
  show (match M.admitted (e0 x s ma sn) (x.size + 1 - s) s sn with | .ok (some s', seen) => ({ e0 x s ma sn with mustAdvance := false, seen } : M).attemptAt s' true | .ok (none, seen) => ({ e0 x s ma sn with seen } : M).say false | .error why => (e0 x s ma sn).stick why) = _
  rw [e]
  rfl
theorem found_end (x : PySem.Str) (s q w : Nat) (must : Bool) (hs : s ≤ q) (hq : q < x.cps.size) (hn : ∀ r, s ≤ r → r < q → x.cps.getD r 0 ≠ 10 ∧ x.cps.getD r 0 ≠ 13)
    (hc : x.cps.getD q 0 = 10 ∧ w = 1 ∨ x.cps.getD q 0 = 13 ∧ q + 1 < x.cps.size ∧ x.cps.getD (q + 1) 0 = 10 ∧ w = 2 ∨ x.cps.getD q 0 = 13 ∧ (x.cps.size ≤ q + 1 ∨ x.cps.getD (q + 1) 0 ≠ 10) ∧ w = 1) :
    (found endC x s must).outcome = some .matched ∧ (found endC x s must).start = q ∧ (found endC x s must).handed = q + w := by
  obtain ⟨sn, e1⟩ := end_start x.cps s must (by omega)
  obtain ⟨sn2, e2⟩ := from_hit x.cps s q must sn hs hq (hc.elim (fun h => .inl h.1) (fun h => h.elim (fun h => .inr h.1) (fun h => .inr h.1))) hn
  have : ∃ sn', ∀ n, M.runFor (n + 15) (eM x.cps q 10 q q true [fS q] 1 none sn2) = eFin x.cps q (q + w) sn' := by
    rcases hc with ⟨h, rfl⟩ | ⟨h, h1, h2, rfl⟩ | ⟨h, h1, rfl⟩
    · exact end_lf hq h
    · exact end_crlf h1 h h2
    · exact end_cr hq h h1
  obtain ⟨sn', e3⟩ := this
  have e4 : found endC x s must = eFin x.cps q (q + w) sn' := by
    unfold found
    rw [e1, e2]
    exact e3 385
  rw [e4]
  exact ⟨rfl, rfl, rfl⟩
theorem found_end_none (x : PySem.Str) (s : Nat) (must : Bool) (hn : ∀ r, s ≤ r → r < x.cps.size → x.cps.getD r 0 ≠ 10 ∧ x.cps.getD r 0 ≠ 13) : (found endC x s must).outcome = some .failed := by
  rcases Nat.lt_or_ge s x.cps.size with hl | hl
  · obtain ⟨sn, e1⟩ := end_start x.cps s must (by omega)
    obtain ⟨sn', e⟩ := adm_none (x := x.cps) (m := e0 x.cps s must sn) rfl rfl rfl (x.cps.size - s) s (x.cps.size + 1 - s) sn (by omega) (by omega) hn
    have e2 : M.attemptFrom (e0 x.cps s must sn) s true = M.say { e0 x.cps s must sn with seen := sn' } false := by
      show (match M.admitted (e0 x.cps s must sn) (x.cps.size + 1 - s) s sn with | .ok (some s', seen) => ({ e0 x.cps s must sn with mustAdvance := false, seen } : M).attemptAt s' true | .ok (none, seen) => ({ e0 x.cps s must sn with seen } : M).say false | .error why => (e0 x.cps s must sn).stick why) = _
      rw [e]
    unfold found
    rw [e1, e2]
    rfl
  · have hc : (decide (s > x.cps.size) || decide (x.cps.size - s < (header endC).1)) = true := by
      have : (header endC).1 = 1 := rfl
      rw [this, Bool.or_eq_true]
      exact .inr (decide_eq_true (by omega))
    unfold found forSearch
    show (M.runFor 400 (if (decide (s > x.cps.size) || decide (x.cps.size - s < (header endC).1)) = true then _ else _)).outcome = _
    rw [hc]
    rfl
/-- rows and their ends -/
noncomputable def joinT (e : List Nat) : List Nat → List (List Nat) → List Nat
  | r, [] => r
  | r, t :: ts => r ++ e ++ joinT e t ts
noncomputable def piecesE (r : List Nat) : List (List Nat) → List PySem.Str
  | [] => if r.length ≠ 0 then [⟨r.toArray⟩] else []
  | t :: ts => ⟨r.toArray⟩ :: ⟨#[13, 10]⟩ :: piecesE t ts
theorem joinT_head (e r : List Nat) (ts : List (List Nat)) : ∃ z, joinT e r ts = r ++ z := by
  cases ts with
  | nil => exact ⟨[], by simp [joinT]⟩
  | cons t ts => exact ⟨e ++ joinT e t ts, by simp [joinT]⟩
theorem end_sub (x : PySem.Str) (e : List Nat) (he : e = [10] ∨ e = [13] ∨ e = [13, 10]) : ∀ (ts : List (List Nat)) (r pre : List Nat) (must : Bool) (f : Nat), x.cps = (pre ++ joinT e r ts).toArray → (∀ c ∈ r, c ≠ 10 ∧ c ≠ 13) → r ≠ [] → (∀ t ∈ ts, t ≠ [] ∧ ∀ c ∈ t, c ≠ 10 ∧ c ≠ 13) → ts.length < f →
    subF endC x ⟨#[13, 10]⟩ f pre.length pre.length must = some (piecesE r ts)
  | [], r, pre, must, f + 1, hx, hr, _, _, _ => by
    have hz : x.cps.size = pre.length + r.length := by rw [hx]; simp [joinT]
    have h2 := outc_f (found_end_none x pre.length must (fun i h1 h2 => at_in (P := fun c => c ≠ 10 ∧ c ≠ 13) pre r [] (by rw [hx, joinT, List.append_nil]) hr h1 (by omega)))
    unfold subF
    simp only [h2]
    rw [if_neg (by decide), if_pos trivial, piecesE]
    by_cases h : r.length ≠ 0
    · rw [if_pos (by omega), if_pos h, sliceP_mid pre r [] (by rw [hx, joinT, List.append_nil]) rfl hz]
    · rw [if_neg (by omega), if_neg h]
  | t :: ts, r, pre, must, f + 1, hx, hr, hr0, hts, hf => by
    have e1 : pre ++ joinT e r (t :: ts) = (pre ++ r ++ e) ++ joinT e t ts := by simp [joinT]
    obtain ⟨z, hz⟩ := joinT_head e t ts
    obtain ⟨ht0, ht⟩ := hts t (.head _)
    obtain ⟨c, t', rfl⟩ : ∃ c t', t = c :: t' := by
      cases t with
      | nil => exact absurd rfl ht0
      | cons c t' => exact ⟨c, t', rfl⟩
    have hc10 := ht c (.head _)
    have el : e.length = 1 ∨ e.length = 2 := by rcases he with rfl | rfl | rfl <;> simp
    have hsz : pre.length + r.length + e.length + 1 ≤ x.cps.size := by rw [hx, e1, hz]; simp; omega
    have hr1 : 0 < r.length := List.length_pos_iff.mpr hr0
    obtain ⟨m1, m2, m3⟩ := found_end x pre.length (pre.length + r.length) e.length must (by omega) (by omega)
      (fun i h1 h2 => at_in (P := fun c => c ≠ 10 ∧ c ≠ 13) pre r (e ++ joinT e (c :: t') ts) (by rw [hx, e1]; simp) hr h1 h2)
      (by
        rcases he with rfl | rfl | rfl
        · exact .inl ⟨at_mid (pre ++ r) 10 (joinT [10] (c :: t') ts) (by rw [hx, e1]; simp) (by simp), rfl⟩
        · refine .inr (.inr ⟨at_mid (pre ++ r) 13 (joinT [13] (c :: t') ts) (by rw [hx, e1]; simp) (by simp), .inr ?_, rfl⟩)
          rw [at_mid (pre ++ r ++ [13]) c (t' ++ z) (by rw [hx, e1, hz]; simp) (by simp; omega)]
          exact hc10.1
        · exact .inr (.inl ⟨at_mid (pre ++ r) 13 (10 :: joinT [13, 10] (c :: t') ts) (by rw [hx, e1]; simp) (by simp), by simp at hsz; omega, at_mid (pre ++ r ++ [13]) 10 (joinT [13, 10] (c :: t') ts) (by rw [hx, e1]; simp) (by simp; omega), rfl⟩))
    unfold subF
    simp only [outc_m m1, m2, m3]
    rw [if_pos trivial, if_pos (by omega), sliceP_mid pre r (e ++ joinT e (c :: t') ts) (by rw [hx, e1]; simp) rfl rfl]
    have e3 : pre.length + r.length + e.length = (pre ++ r ++ e).length := by simp; omega
    rw [e3, end_sub x e he ts (c :: t') (pre ++ r ++ e) _ f (by rw [hx, e1]) ht ht0 (fun t' h => hts t' (.tail _ h)) (by simp at hf; omega)]
    simp [piecesE]
end Mine
end
section
open PySem PySem.Sre
namespace Mine
noncomputable abbrev crlf : Str := ⟨#[13, 10]⟩
noncomputable abbrev ddot : Str := ⟨#[46, 46]⟩
noncomputable abbrev glue0 (l : List Str) : Str := PySem.Builtin.Str.glued ⟨#[]⟩ l
theorem glue_fold (e : List Nat) : ∀ (l : List Str) (acc : Array Nat), (l.foldl (fun acc p => acc ++ e.toArray ++ p.cps) acc).toList = acc.toList ++ (l.map fun p => e ++ p.cps.toList).flatten
  | [], acc => by simp
  | p :: l, acc => by
    rw [List.foldl_cons, glue_fold e l]
    simp
theorem glue_nil (l : List Str) : (glue0 l).cps.toList = (l.map fun p => p.cps.toList).flatten := by
  cases l with
  | nil => rfl
  | cons p l =>
    show ((l.foldl (fun acc p => acc ++ ([] : List Nat).toArray ++ p.cps) p.cps)).toList = _
    rw [glue_fold]
    simp
theorem glue_rows (e : List Nat) : ∀ (ts : List (List Nat)) (r : List Nat), (PySem.Builtin.Str.glued ⟨e.toArray⟩ ((⟨r.toArray⟩ : Str) :: ts.map fun t => ⟨t.toArray⟩)).cps.toList = joinT e r ts := by
  intro ts r
  show ((ts.map fun t => (⟨t.toArray⟩ : Str)).foldl (fun acc p => acc ++ e.toArray ++ p.cps) r.toArray).toList = _
  rw [glue_fold]
  induction ts generalizing r with
  | nil => simp [joinT]
  | cons t ts ih =>
    rw [joinT, ← ih t]
    simp
theorem str_ext {x : Str} {l : List Nat} (h : x.cps.toList = l) : x = ⟨l.toArray⟩ := by
  cases x with
  | mk c => subst h; simp
theorem glue_E : ∀ (ts : List (List Nat)) (r : List Nat), ((piecesE r ts).map fun p => p.cps.toList).flatten = joinT [13, 10] r ts
  | [], r => by
    unfold piecesE joinT
    split
    · simp
    · rename_i h
      have : r = [] := List.length_eq_zero_iff.mp (by omega)
      simp [this]
  | t :: ts, r => by simp [piecesE, joinT, glue_E ts t]
theorem glue_T : ∀ (ts : List (List Nat)) (tl : List Nat), ((piecesT tl ts).map fun p => p.cps.toList).flatten = joinT [13, 10] tl (ts.map fun t => 46 :: 46 :: t)
  | [], tl => by
    unfold piecesT
    rw [List.map_nil, joinT]
    split
    · simp
    · rename_i h
      have : tl = [] := List.length_eq_zero_iff.mp (by omega)
      simp [this]
  | t :: ts, tl => by
    simp only [piecesT, List.map_cons, List.flatten_cons, glue_T ts t, joinT]
    have : ∀ (ts : List (List Nat)) (t : List Nat), joinT [13, 10] (46 :: 46 :: t) ts = 46 :: 46 :: joinT [13, 10] t ts := by
      intro ts t; cases ts <;> simp [joinT]
    rw [this]
    simp
theorem body_join : ∀ (ts : List (List Nat)) (tl : List Nat), bodyT tl ts = joinT [13, 10] tl (ts.map fun t => 46 :: t)
  | [], tl => by simp [bodyT, joinT]
  | t :: ts, tl => by
    have : ∀ (ts : List (List Nat)) (t : List Nat), joinT [13, 10] (46 :: t) ts = 46 :: joinT [13, 10] t ts := by
      intro ts t; cases ts <;> simp [joinT]
    simp [bodyT, joinT, body_join ts t, this]
theorem join_dot (e : List Nat) (c : Nat) (ts : List (List Nat)) (t : List Nat) : joinT e (c :: t) ts = c :: joinT e t ts := by cases ts <;> simp [joinT]
theorem piecesE_len : ∀ (ts : List (List Nat)) (r : List Nat), (piecesE r ts).length ≤ 2 * ts.length + 1
  | [], r => by unfold piecesE; split <;> simp
  | t :: ts, r => by simp only [piecesE, List.length_cons]; have := piecesE_len ts t; omega
theorem piecesT_len : ∀ (ts : List (List Nat)) (r : List Nat), (piecesT r ts).length ≤ 2 * ts.length + 1
  | [], r => by unfold piecesT; split <;> simp
  | t :: ts, r => by simp only [piecesT, List.length_cons]; have := piecesT_len ts t; omega
theorem fold_len : ∀ (l : List Str) (a : Nat), l.foldl (fun a p => a + p.length + 0) a = a + ((l.map fun p => p.cps.toList).flatten).length
  | [], a => by simp
  | p :: l, a => by
    rw [List.foldl_cons, fold_len l]
    simp [Str.length]
    omega
theorem notLong {l : List Str} {n : Nat} (h : (glue0 l).cps.toList.length = n) (hn : n < 100000) : PySem.Builtin.Str.tooLong (l.toArray.foldl (· + ·.length + 0) 0) = false := by
  rw [glue_nil] at h
  rw [List.foldl_toArray, PySem.Builtin.Str.tooLong]
  have := fold_len l 0
  rw [this, h, sizeLine_eq]
  exact decide_eq_false (by omega)
theorem end_ok (e : List Nat) (he : e = [10] ∨ e = [13] ∨ e = [13, 10]) (r : List Nat) (ts : List (List Nat)) (hr : ∀ c ∈ r, c ≠ 10 ∧ c ≠ 13) (hr0 : r ≠ []) (ht : ∀ t ∈ ts, t ≠ [] ∧ ∀ c ∈ t, c ≠ 10 ∧ c ≠ 13) (hl : ts.length < 60) :
    ∃ o, subF endC ⟨(joinT e r ts).toArray⟩ crlf 60 0 0 false = some o ∧ glue0 o = ⟨(joinT [13, 10] r ts).toArray⟩ ∧ o.length < 1000 := by
  refine ⟨_, end_sub ⟨(joinT e r ts).toArray⟩ e he ts r [] false 60 rfl hr hr0 ht hl, str_ext (by rw [glue_nil, glue_E]), ?_⟩
  have := piecesE_len ts r
  omega
theorem dot_ok (r : List Nat) (ts : List (List Nat)) (hr : ∀ c ∈ r, c ≠ 10) (ht : ∀ t ∈ ts, ∀ c ∈ t, c ≠ 10) (hl : ts.length < 59) (hs : (joinT [13, 10] (46 :: r) (ts.map fun t => 46 :: t)).length ≤ 190) :
    ∃ o, subF dotC ⟨(joinT [13, 10] (46 :: r) (ts.map fun t => 46 :: t)).toArray⟩ ddot 60 0 0 false = some o ∧ glue0 o = ⟨(joinT [13, 10] (46 :: 46 :: r) (ts.map fun t => 46 :: 46 :: t)).toArray⟩ ∧ o.length < 1000 := by
  generalize hx : (⟨(joinT [13, 10] (46 :: r) (ts.map fun t => 46 :: t)).toArray⟩ : Str) = x
  have hx2 : x.cps = ([46] ++ bodyT r ts).toArray := by rw [← hx, join_dot, body_join]; rfl
  have hs2 : x.cps.size ≤ 190 := by rw [← hx]; simpa using hs
  obtain ⟨m1, m2, m3⟩ := found_next x 0 0 false (.inl rfl) (Nat.le_refl _) (fun r h1 h2 => by omega) (.inl rfl) (by rw [hx2]; rfl) (by rw [hx2]; simp) (by decide)
  have h1 := dot_sub x hs2 ts r [46] false 59 hx2 (by simp) rfl hr ht hl
  refine ⟨ddot :: piecesT r ts, ?_, str_ext ?_, ?_⟩
  · show subF dotC x ddot (59 + 1) 0 0 false = _
    unfold subF
    simp only [outc_m m1, m2, m3]
    rw [if_pos trivial, if_neg (by decide)]
    show (subF dotC x ⟨#[46, 46]⟩ 59 [46].length [46].length false).map _ = _
    rw [h1]
    rfl
  · rw [glue_nil, List.map_cons, List.flatten_cons, glue_T, join_dot, join_dot]
    rfl
  · have := piecesT_len ts r
    rw [List.length_cons]
    omega
end Mine
end
section
open PySem PySem.Sre PySem.StrLaws PySem.Builtin.Str
namespace Mine
section
variable {x : Str}
theorem at_crlf (pre suf : List Nat) (hx : x.cps = (pre ++ [13, 10] ++ suf).toArray) {i : Nat} (hi : i = pre.length) : At x crlf x.length i := by
  subst hi
  refine ⟨?_, ?_⟩
  · show pre.length + 2 ≤ x.cps.size
    rw [hx]; simp
  · rw [subAt_eq, hx]
    show (List.take 2 _ == [13, 10]) = true
    simp
theorem not_crlf (a b c : List Nat) (hx : x.cps = (a ++ b ++ c).toArray) (hb : ∀ v ∈ b, v ≠ 13) {i : Nat} (h1 : a.length ≤ i) (h2 : i < a.length + b.length) : ¬ At x crlf x.length i := by
  intro h
  have hb' := at_in (P := fun v => v ≠ 13) a b c hx hb h1 h2
  have h3 := h.2
  have hsz : i + 2 ≤ x.cps.size := h.1
  rw [subAt_eq] at h3
  have h4 : (x.cps.toList.drop i).take 2 = [13, 10] := eq_of_beq h3
  have h5 : x.cps.toList[i]? = some 13 := by
    have : ((x.cps.toList.drop i).take 2)[0]? = some 13 := by rw [h4]; rfl
    rw [List.getElem?_take_of_lt (by decide), List.getElem?_drop] at this
    simpa using this
  apply hb'
  rw [Array.getElem?_toList] at h5
  rw [Array.getD_eq_getD_getElem?, h5]
  rfl
theorem split_parts : ∀ (ts : List (List Nat)) (r pre : List Nat) (a f : Nat) (cuts : List Nat), x.cps = (pre ++ joinT [13, 10] r ts).toArray → a = pre.length → (∀ c ∈ r, c ≠ 13) → (∀ t ∈ ts, ∀ c ∈ t, c ≠ 13) → ChainG x crlf x.length a cuts f → (∀ k, f ≤ k → ¬ At x crlf x.length k) →
    partsFrom x 2 a cuts = ⟨r.toArray⟩ :: ts.map fun t => ⟨t.toArray⟩
  | [], r, pre, a, f, cuts, hx, ha, hr, _, hG, hn => by
    have hz : x.length = pre.length + r.length := by show x.cps.size = _; rw [hx]; simp [joinT]
    have hx' : x.cps = (pre ++ r ++ []).toArray := by rw [hx, joinT, List.append_nil]
    cases cuts with
    | nil =>
      show [strSub x a x.length] = [_]
      congr 1
      exact sliceP_mid pre r [] hx' ha hz
    | cons c rest =>
      exfalso
      have h1 := hG.1
      have h2 := hG.2.1
      have h3 : c + 2 ≤ x.length := h2.1
      exact not_crlf pre r [] hx' hr (by omega) (by omega) h2
  | t :: ts, r, pre, a, f, cuts, hx, ha, hr, ht, hG, hn => by
    have e1 : pre ++ joinT [13, 10] r (t :: ts) = (pre ++ r) ++ [13, 10] ++ joinT [13, 10] t ts := by simp [joinT]
    have hq : At x crlf x.length (pre.length + r.length) := at_crlf (pre ++ r) _ (by rw [hx, e1]) (by simp)
    cases cuts with
    | nil =>
      have e : f = a := hG
      exact absurd hq (hn _ (by omega))
    | cons c rest =>
      have h1 := hG.1
      have hc : c = pre.length + r.length := by
        rcases Nat.lt_trichotomy c (pre.length + r.length) with h | h | h
        · exact absurd hG.2.1 (not_crlf pre r ([13, 10] ++ joinT [13, 10] t ts) (by rw [hx, e1]; simp) hr (by omega) h)
        · exact h
        · exact absurd hq (hG.2.2.1 _ (by omega) h)
      show strSub x a c :: partsFrom x 2 (c + 2) rest = _
      rw [split_parts ts t (pre ++ r ++ [13, 10]) (c + 2) f rest (by rw [hx, e1]) (by simp; omega) (ht t (.head _)) (fun t' h => ht t' (.tail _ h)) hG.2.2.2 hn]
      rw [List.map_cons]
      congr 1
      exact sliceP_mid pre r ([13, 10] ++ joinT [13, 10] t ts) (by rw [hx, e1]; simp) ha hc
theorem split_ok (r : List Nat) (ts : List (List Nat)) (hr : ∀ c ∈ r, c ≠ 13) (ht : ∀ t ∈ ts, ∀ c ∈ t, c ≠ 13) (hx : x = ⟨(joinT [13, 10] r ts).toArray⟩) : Txt.split x crlf = ⟨r.toArray⟩ :: ts.map fun t => ⟨t.toArray⟩ := by
  obtain ⟨f, hG, hn⟩ := occ_tight x crlf (by decide)
  have hp := split_parts ts r [] 0 f _ (by rw [hx]; rfl) rfl hr ht hG hn
  unfold Txt.split
  split
  · rename_i hc
    rw [Bool.or_eq_true, decide_eq_true_eq, decide_eq_true_eq] at hc
    rcases hc with h | h
    · have h : x.length < 2 := h
      cases ts with
      | nil => rw [hx, joinT]; rfl
      | cons t ts =>
        exfalso
        have : x.length = (joinT [13, 10] r (t :: ts)).length := by show x.cps.size = _; rw [hx]; simp
        rw [joinT] at this
        simp at this
        omega
    · exfalso
      have h1 : Builtin.Str.strKind crlf = 1 := by decide +kernel
      rw [h1] at h
      unfold Builtin.Str.strKind at h
      split at h
      · omega
      · split at h <;> omega
  · split
    · rename_i he
      have e0 : occurrences x crlf 0 x.length (x.length + 1) = [] := List.isEmpty_iff.mp he
      rw [e0] at hp
      rw [← hp]
      show [x] = [strSub x 0 x.length]
      rw [sub_whole]
    · rw [partsBetween_eq]
      exact hp
end
end Mine
end
section
open PySem PySem.W PySem.Calls PyProof.Rows
namespace Mine
theorem fillG1 : (PySem.Challenge.rw_ty0055_01, Mine.hd.heap_1) = (PySem.Challenge.rw_ty0055_01, Mine.hd.heap_1) := by
  k_fill
  rfl

local macro_rules | `(tactic| walk_at "getMethod ref") => `(tactic| (k_here; (with_reducible show wpAny _ _ (getMethod (Value.ref _) (PySem.Str.ofString "search") _) _ _ _); k_dflt (refine' search_method ?F ?X ?p ?_; (case F => k_asm); (case X => k_asm); (case p => k_is))))
noncomputable def letters : List Str := [S "a", S "b", S "c", S "d", S "A", S "B", S "C", S "D"]
noncomputable def iv (i : Int) : Value := .int i 0
noncomputable def nameCodes : List Value := [iv 14, iv 10, iv 4, iv 1, iv 1, iv 22, iv 0, iv 31, iv 16, iv 127, iv 0, iv 13, iv 7, iv 22, iv 0, iv 31, iv 16, iv 127, iv 0, iv 1]
noncomputable def valCodes : List Value := [iv 14, iv 14, iv 4, iv 1, iv 1, iv 9, iv 4294966783, iv 0, iv 0, iv 2147483648, iv 0, iv 0, iv 0, iv 0, iv 0, iv 13, iv 11, iv 9, iv 4294966783, iv 0, iv 0, iv 2147483648, iv 0, iv 0, iv 0, iv 0, iv 0, iv 1]
noncomputable def freeOf (codes : List Value) (x : Str) : Bool := outc (Sre.M.runFor 400 (Sre.forSearch (codeOf codes) x.cps 0 (min (0 : Int).toNat x.cps.size) (min (2^63-1 : Int).toNat x.cps.size) false)).outcome == 2
theorem name_free : ∀ x ∈ letters, freeOf nameCodes x = true := by decide +kernel
theorem val_free : ∀ x ∈ letters, freeOf valCodes x = true := by decide +kernel
set_option maxRecDepth 100000 in
set_option maxHeartbeats 0 in
theorem convert_spec (w : World) (sa : Addr) (x : Str) (t : Tok) (b : Bool) (hx : x ∈ letters) (news : List (Addr × Obj)) :
    CallSpec 1 w 128 [.ref sa, .str x t] [(S "name", .bool b)] news (fun v nw => v = .str x t ∧ nw = news) := by
  intro mean loose mg mb dp un gd cn cs a ccd cl outer A₀ base h₀ L m s Q E B F KX N T hk hdp hun hret
  w_on
  dsimp only [PG, KG, VG, S] at *
  with_reducible (k_here; (with_reducible show wpAny _ (ktrTop _ _ _ _ _ _ _ _ _ _) _ _ _ _); (refine wpAny_call ?_); (k_dflt cell_enter))
  k_steps
  · refine go ?_
    rename Fr _ _ _ _ => F2
    refine search_call (src := _) (fl := _) (codes := nameCodes) F2 (by assumption) (by k_is) (by k_is) (eq_of_beq (name_free x hx)) ?_
    k_steps
    rename Fr _ _ _ _ => F2
    rename News _ _ _ _ => N2
    exact hret _ _ _ _ ⟨rfl, rfl⟩ F2 N2
  · refine go ?_
    rename Fr _ _ _ _ => F2
    refine search_call (src := _) (fl := _) (codes := valCodes) F2 (by assumption) (by k_is) (by k_is) (eq_of_beq (val_free x hx)) ?_
    k_steps
    rename Fr _ _ _ _ => F2
    rename News _ _ _ _ => N2
    exact hret _ _ _ _ ⟨rfl, rfl⟩ F2 N2
end Mine
end
section
open PySem PySem.W PySem.Calls PyProof.Rows PySem.Builtin.Str
namespace Mine
noncomputable def ltr (b : Bool) (i : Fin 4) : Str := if b then (match i with | 0 => S "A" | 1 => S "B" | 2 => S "C" | 3 => S "D") else (match i with | 0 => S "a" | 1 => S "b" | 2 => S "c" | 3 => S "d")
theorem ltr_mem : ∀ b i, ltr b i ∈ letters := by decide +kernel
theorem ltr_inj : ∀ b c i j, ltr b i = ltr c j → b = c ∧ i = j := by decide +kernel
theorem ltr_eq {b : Bool} {i j : Fin 4} : ltr b i = ltr b j ↔ i = j := ⟨fun h => (ltr_inj _ _ _ _ h).2, fun h => h ▸ rfl⟩
theorem ltr_len : ∀ b i, (ltr b i).length = 1 := by decide +kernel
theorem low_eq : ∀ b i, Txt.lower (ltr b i) = ltr false i := by decide +kernel
theorem low_fit (b : Bool) (i : Fin 4) : tooLong (Txt.lower (ltr b i)).length = false := by
  rw [low_eq, ltr_len, tooLong, sizeLine_eq]; rfl
theorem up_eq : ∀ b i, Txt.upper (ltr b i) = ltr true i := by decide +kernel
theorem up_fit (b : Bool) (i : Fin 4) : tooLong (Txt.upper (ltr b i)).length = false := by
  rw [up_eq, ltr_len, tooLong, sizeLine_eq]; rfl
theorem sw_eq : ∀ b i, Txt.swapcase (ltr b i) = ltr (!b) i := by decide +kernel
theorem sw_fit (b : Bool) (i : Fin 4) : tooLong (Txt.swapcase (ltr b i)).length = false := by
  rw [sw_eq, ltr_len, tooLong, sizeLine_eq]; rfl
section
variable {prog : Program} {w : World} {A : Around} {E : Value → Shared → Prop} {s : Shared} {b : Bool} {i : Fin 4} {t : Tok}
theorem call_lower {Q : Value → Shared → Prop} (h : Q (.str (ltr false i) s.toks) { s with toks := s.toks + 1 }) : wpAny (model prog w) A (call (.builtin "str.lower") [.str (ltr b i) t]) Q E s := by
  rw [← low_eq b i] at h
  exact PySem.SC.lower (low_fit b i) h
theorem call_upper {Q : Value → Shared → Prop} (h : Q (.str (ltr true i) s.toks) { s with toks := s.toks + 1 }) : wpAny (model prog w) A (call (.builtin "str.upper") [.str (ltr b i) t]) Q E s := by
  rw [← up_eq b i] at h
  exact PySem.SC.upper (up_fit b i) h
theorem call_swap {Q : Value → Shared → Prop} (h : Q (.str (ltr (!b) i) s.toks) { s with toks := s.toks + 1 }) : wpAny (model prog w) A (call (.builtin "str.swapcase") [.str (ltr b i) t]) Q E s := by
  rw [← sw_eq b i] at h
  exact PySem.SC.swapcase (sw_fit b i) h
end
end Mine
end
section
open PySem PySem.W PySem.Calls PyProof.Rows
namespace Mine
local macro_rules | `(tactic| walk_at "one more line") => `(tactic| skip)
theorem fillG2 : (PySem.Challenge.rw_ty0055_01, Mine.hd.heap_1) = (PySem.Challenge.rw_ty0055_01, Mine.hd.heap_1) := by
  k_fill
  rfl

local macro_rules | `(tactic| walk_at "call builtin:str.lower") => `(tactic| refine call_lower ?_)
noncomputable abbrev headD (w : World) (kt : Tok) (hl : Addr) (dn : Nat) : Obj := dictOf [{ hash := PyData.keyHash w.params (Str.ofString "_headers"), key := .str (Str.ofString "_headers") kt, val := .ref hl }] dn
noncomputable abbrev rowO (n h : Str) (t u : Tok) : Obj := tupO [.str n t, .str h u] 0
/-- a row of the book: its place, the name's case and letter, the head's letter -/
structure Row where
  a : Addr
  b : Bool
  i : Fin 4
  g : Fin 4
  t : Tok
  u : Tok
noncomputable abbrev Row.obj (r : Row) : Obj := rowO (ltr r.b r.i) (ltr false r.g) r.t r.u
noncomputable def refs (rows : List Row) : List Value := rows.map fun r => .ref r.a
/-- what get answers: the head of the first row whose name is i -/
noncomputable def getR (rows : List Row) (i : Fin 4) : Value := match rows.find? (fun r => r.i = i) with
  | some r => .str (ltr false r.g) r.u
  | none => .none
theorem find_first {rows : List Row} {k : Nat} {i : _root_.Fin 4} {r : Row} (hr : rows[k]? = some r) (hq : r.i = i) (hno : ∀ r ∈ rows.take k, r.i ≠ i) : rows.find? (fun r => r.i = i) = some r := by
  induction rows generalizing k with
  | nil => simp at hr
  | cons x rows ih =>
    cases k with
    | zero =>
      simp at hr
      subst hr
      rw [List.find?_cons_of_pos (by simpa using hq)]
    | succ k =>
      have hx : ¬ x.i = i := hno x (by simp)
      rw [List.find?_cons_of_neg (by simpa using hx)]
      exact ih (by simpa using hr) fun r h => hno r (by rw [List.take_succ_cons]; exact .tail _ h)
set_option maxRecDepth 100000 in
set_option maxHeartbeats 0 in
theorem get_spec (w : World) (kt : Tok) (sa da hl : Addr) (ep dn : Nat) (b : Bool) (i : Fin 4) (t : Tok) (rows : List Row) (rest : List (Addr × Obj)) (hrows : ∀ r ∈ rows, (r.a, r.obj) ∈ rest) :
    CallSpec 2 w 176 [.ref sa, .str (ltr b i) t] [] ((sa, instObj 229 da) :: (da, headD w kt hl dn) :: (hl, PySem.W.listOf (refs rows).toArray ep) :: rest)
     (fun v nw => v = getR rows i ∧ nw = (sa, instObj 229 da) :: (da, headD w kt hl dn) :: (hl, PySem.W.listOf (refs rows).toArray ep) :: rest) := by
  intro mean loose mg mb dp un gd cn cs a ccd cl outer A₀ base h₀ L m s Q E B F KX N T hk hdp hun hret
  w_on
  dsimp only [PG, KG, VG, S, headD, rowO, List.cons_append, List.nil_append] at *
  with_reducible (k_here; (with_reducible show wpAny _ (ktrTop _ _ _ _ _ _ _ _ _ _) _ _ _ _); (refine wpAny_call ?_); (k_dflt (refine' code_def ?k1 ?k2 ?k3 ?k4 ?k5 ?kA ?kF ?kK ?k6 ?k7 ?k8 ?k9 ?kB ?_ ?c2 ?c3 ?c4 ?c5; (case kA => exact rfl); (case kF => exact rfl); (case kK => assumption); (case k1 => k_asm); (case k2 => k_asm); (case k3 => k_asm); (case k4 => k_asm); (case k5 => k_asm); (case k6 => k_is); (case k7 => k_is); (case k8 => ktr_room); (case k9 => first | exact BindsTo.of_eq rfl | exact binds_K (by k_in) rfl (by k_is) rfl rfl rfl | fail "no rule for these arguments"); (case c5 => decide); (case kB => exact locs rfl); (case c2 => exact rfl); (case c3 => exact rfl); (case c4 => exact rfl); k_whole; intro g' L' h' FG' F' N' B' X' T'; (try dsimp only); (try k_lift B'); (try k_fold))))
  k_steps
  refine go ?_
  rename Fr _ _ _ _ => F2
  rename News _ _ _ _ => N2
  refine CallSpec.use (convert_spec w _ _ _ _ (ltr_mem _ _) _) (by assumption) F2 (by assumption) N2 (by assumption) rfl rfl ?_ ?_ ?_
  · ktr_room
  · ktr_units
  rintro v nw h' tk' ⟨rfl, rfl⟩ F3 N3
  clear F2 N2
  k_steps
  rename Fr _ _ _ _ => Fa
  refine @For_list _ _ _ _ _ _ _ _ _ _ _ _ _ Fa (by rfl) (by intro _; with_unfolding_all rfl) (by passes_own) ?_
  k_steps
  rename Fr _ _ _ _ => Fa
  rename News _ _ _ _ => Na
  refine ListLoop.mk hl (refs rows) ep _ _ (fun k m₁ nw => nw = (sa, instObj 229 da) :: (da, headD w kt hl dn) :: (hl, PySem.W.listOf (refs rows).toArray ep) :: rest ∧ m₁ (Str.ofString "self") = some (.ref sa) ∧ (∃ t', m₁ (Str.ofString "name") = some (.str (ltr false i) t')) ∧ m₁ (Str.ofString "default") = some .none ∧ ∀ r ∈ rows.take k, r.i ≠ i) rfl (.tail _ (.tail _ (.head _))) ?_ Fa Na ?_ ?_ ?_
  · rintro _ _ _ ⟨rfl, _⟩
    exact .tail _ (.tail _ (.head _))
  · exact ⟨rfl, rfl, ⟨_, rfl⟩, rfl, by simp⟩
  · clear Fa Na
    rintro k v m₁ nw h tk I o hv ⟨rfl, e1, ⟨t', e2⟩, e3, hno⟩ hne Fa Na
    replace Fa := Fr_knows Fa [(Str.ofString "self", .ref sa), (Str.ofString "name", .str (ltr false i) t'), (Str.ofString "default", .none)] (by simp [e1, e2, e3])
    dsimp only [know] at Fa
    clear e1 e2 e3
    obtain ⟨r, hr, rfl⟩ : ∃ r, rows[k]? = some r ∧ .ref r.a = v := by
      rw [refs, List.getElem?_map] at hv
      exact Option.map_eq_some_iff.mp hv
    have hmem : (r.a, r.obj) ∈ rest := hrows r (List.mem_of_getElem? hr)
    replace Na := News_cons Na (List.mem_cons_of_mem _ (List.mem_cons_of_mem _ (List.mem_cons_of_mem _ (List.mem_cons_of_mem _ hmem))))
    obtain ⟨ra, rb, ri, rg, rt, ru⟩ := r
    dsimp only [Row.obj, rowO] at *
    k_steps
    · have hq : (ltr false ri == ltr false i) = true := by assumption
      have hq : ri = i := ltr_eq.mp (eq_of_beq hq)
      dsimp only [TurnR]
      k_steps
      rename Fr _ _ _ _ => F4
      rename News _ _ _ _ => N4
      refine hret _ _ _ _ ⟨?_, rfl⟩ F4 (News_tail (News_tail N4))
      rw [getR, find_first hr hq hno]
    · have hq : ¬ ri = i := fun e => by
        subst e
        have hq : (ltr false ri == ltr false ri) = false := by assumption
        rw [beq_self_eq_true] at hq
        cases hq
      rename Fr _ _ _ _ => F4
      rename News _ _ _ _ => N4
      refine TurnU.intro F4 (News_tail N4) hne ⟨rfl, rfl, ⟨_, rfl⟩, rfl, ?_⟩
      rw [List.take_succ, hr]
      rintro r h
      rcases List.mem_append.mp h with h | h
      · exact hno r h
      · rw [Option.toList_some, List.mem_singleton] at h
        subst h
        exact hq
  · rintro h' tk m' nw F4 N4 ⟨rfl, e1, e2, e3, hno⟩
    replace F4 := Fr_knows F4 [(Str.ofString "default", .none)] (by simp [e3])
    dsimp only [know] at F4
    k_steps
    rename Fr _ _ _ _ => F4
    rename News _ _ _ _ => N4
    refine hret _ _ _ _ ⟨?_, rfl⟩ F4 N4
    rw [refs, List.length_map, List.take_length] at hno
    rw [getR, List.find?_eq_none.mpr (by simpa using hno)]
end Mine
end
section
open PySem PySem.W PySem.Calls PyProof.Rows
namespace Mine
local macro_rules | `(tactic| walk_at "one more line") => `(tactic| skip)
theorem fillG3 : (PySem.Challenge.rw_ty0055_01, Mine.hd.heap_1) = (PySem.Challenge.rw_ty0055_01, Mine.hd.heap_1) := by
  k_fill
  rfl


local macro_rules | `(tactic| k_all) => `(tactic| first | with_reducible assumption | (refine restOff (by with_reducible assumption) ?_; (try dsimp only); omega))
local macro_rules | `(tactic| walk_at "eval ListComp") => `(tactic| (refine halt ?_))
local macro_rules | `(tactic| walk_at "call builtin:str.lower") => `(tactic| refine call_lower ?_)
theorem refs_len (rows : List Row) : (refs rows).length = rows.length := List.length_map _
/-- what items gives -/
noncomputable def ItemsR (w : World) (kt : Tok) (sa da hl : Addr) (ep dn : Nat) (rows : List Row) (rest : List (Addr × Obj)) (v : Value) (nw : List (Addr × Obj)) : Prop :=
  ∃ c k, @LT.lt Nat _ hl c ∧ v = .ref c ∧ nw = (c, PySem.W.listOf (refs rows).toArray k) :: (sa, instObj 229 da) :: (da, headD w kt hl dn) :: (hl, PySem.W.listOf (refs rows).toArray ep) :: rest
theorem ItemsR.on {w : World} {kt : Tok} {sa da hl : Addr} {ep dn : Nat} {rows : List Row} {rest : List (Addr × Obj)} {P : Value → List (Addr × Obj) → Heap → Nat → Prop}
    (k : ∀ c e h t, @LT.lt Nat _ hl c → P (.ref c) ((c, PySem.W.listOf (refs rows).toArray e) :: (sa, instObj 229 da) :: (da, headD w kt hl dn) :: (hl, PySem.W.listOf (refs rows).toArray ep) :: rest) h t) (v : Value) (nw : List (Addr × Obj)) (h : Heap) (t : Nat) (R : ItemsR w kt sa da hl ep dn rows rest v nw) : P v nw h t := by
  obtain ⟨c, e, hc, rfl, rfl⟩ := R
  exact k c e h t hc
set_option maxRecDepth 100000 in
set_option maxHeartbeats 0 in
theorem items_spec (w : World) (kt : Tok) (sa da hl : Addr) (ep dn : Nat) (rows : List Row) (hlen : rows.length < 1000) (rest : List (Addr × Obj)) :
    CallSpec 1 w 193 [.ref sa] [] ((sa, instObj 229 da) :: (da, headD w kt hl dn) :: (hl, PySem.W.listOf (refs rows).toArray ep) :: rest)
     (ItemsR w kt sa da hl ep dn rows rest) := by
  intro mean loose mg mb dp un gd cn cs a ccd cl outer A₀ base h₀ L m s Q E B F KX N T hk hdp hun hret
  w_on
  dsimp only [PG, KG, VG, S, headD, rowO, List.cons_append, List.nil_append] at *
  first | with_reducible (k_here; (with_reducible show wpAny _ (ktrTop _ _ _ _ _ _ _ _ _ _) _ _ _ _); (refine wpAny_call ?_); (k_dflt cell_enter)) | with_reducible (k_here; (with_reducible show wpAny _ (ktrTop _ _ _ _ _ _ _ _ _ _) _ _ _ _); (refine wpAny_call ?_); (k_dflt (refine' code_defC ?k1 ?k2 ?k3 ?k4 ?k5 ?kA ?kF ?kK ?k6 ?k7 ?k8 ?k9 ?kB ?kD ?_ ?c2 ?c3 ?c4; (case kA => exact rfl); (case kF => exact rfl); (case kK => assumption); (case k1 => k_asm); (case k2 => k_asm); (case k3 => k_asm); (case k4 => k_asm); (case k5 => k_asm); (case k6 => k_is); (case k7 => k_is); (case k8 => ktr_room); (case k9 => first | exact BindsTo.of_eq rfl | exact binds_K (by k_in) rfl (by k_is) rfl rfl rfl | fail "no rule for these arguments"); (case kB => exact rfl); (case kD => decide +kernel); (case c2 => exact rfl); (case c3 => exact rfl); (case c4 => exact rfl); k_whole; intro g' L' h' tk' cells' FG' F' N' Y' B' X' T' l1; (try k_lt l1); k_cells Y'; (try simp only [List.cons_append, List.nil_append] at N'); (try dsimp only); (try k_lift B'); (try k_fold))))
  k_steps
  rename Fr _ _ _ _ => F2
  rename News _ _ _ _ => N2
  refine slice_list F2 N2 (News_isList N2 (.tail _ (.tail _ (.head _)))) .none .none ?_ (hsz := by rw [List.size_toArray, refs, List.length_map, sizeLine_eq]; omega)
  intro h5 F5 N5
  rw [slicePick_all] at N5
  have hc : @LT.lt Nat _ hl _ := Nat.lt_succ_of_lt (Heap.lt_size (N2 _ (.tail _ (.tail _ (.head _)))).1)
  clear F2 N2
  k_steps
  rename Fr _ _ _ _ => F6
  rename News _ _ _ _ => N6
  exact hret _ _ _ _ ⟨_, _, hc, rfl, rfl⟩ F6 N6
set_option maxRecDepth 100000 in
set_option maxHeartbeats 0 in
theorem delitem_spec (w : World) (kt : Tok) (sa da hl : Addr) (ep dn : Nat) (b : Bool) (i : _root_.Fin 4) (t : Tok) (rows : List Row) (rest : List (Addr × Obj)) (hrows : ∀ r ∈ rows, (r.a, r.obj) ∈ rest) (hlen : rows.length < 1000) (o1 : @LT.lt Nat _ hl da) (o2 : @LT.lt Nat _ da sa) (hne : ∀ p ∈ rest, p.1 ≠ hl) :
    CallSpec 2 w 147 [.ref sa, .str (ltr b i) t] [] ((sa, instObj 229 da) :: (da, headD w kt hl dn) :: (hl, PySem.W.listOf (refs rows).toArray ep) :: rest)
     (fun v nw => v = .none ∧ ∃ ep', nw = (sa, instObj 229 da) :: (da, headD w kt hl dn) :: (hl, PySem.W.listOf (refs (rows.filter fun r => r.i ≠ i)).toArray ep') :: rest) := by
  intro mean loose mg mb dp un gd cn cs a ccd cl outer A₀ base h₀ L m s Q E B F KX N T hk hdp hun hret
  w_on
  dsimp only [PG, KG, VG, S, headD, rowO, List.cons_append, List.nil_append] at *
  first | with_reducible (k_here; (with_reducible show wpAny _ (ktrTop _ _ _ _ _ _ _ _ _ _) _ _ _ _); (refine wpAny_call ?_); (k_dflt cell_enter)) | with_reducible (k_here; (with_reducible show wpAny _ (ktrTop _ _ _ _ _ _ _ _ _ _) _ _ _ _); (refine wpAny_call ?_); (k_dflt (refine' code_defC ?k1 ?k2 ?k3 ?k4 ?k5 ?kA ?kF ?kK ?k6 ?k7 ?k8 ?k9 ?kB ?kD ?_ ?c2 ?c3 ?c4; (case kA => exact rfl); (case kF => exact rfl); (case kK => assumption); (case k1 => k_asm); (case k2 => k_asm); (case k3 => k_asm); (case k4 => k_asm); (case k5 => k_asm); (case k6 => k_is); (case k7 => k_is); (case k8 => ktr_room); (case k9 => first | exact BindsTo.of_eq rfl | exact binds_K (by k_in) rfl (by k_is) rfl rfl rfl | fail "no rule for these arguments"); (case kB => exact rfl); (case kD => decide +kernel); (case c2 => exact rfl); (case c3 => exact rfl); (case c4 => exact rfl); k_whole; intro g' L' h' tk' cells' FG' F' N' Y' B' X' T' l1; (try k_lt l1); k_cells Y'; (try simp only [List.cons_append, List.nil_append] at N'); (try dsimp only); (try k_lift B'); (try k_fold))))
  k_steps
  have hrest : AllLt _ rest := (by assumption : _ ∧ _ ∧ _ ∧ AllLt _ rest).2.2.2
  refine go ?_
  rename Fr _ _ _ _ => F2
  rename News _ _ _ _ => N2
  refine CallSpec.use (convert_spec w _ _ _ _ (ltr_mem _ _) _) (by assumption) F2 (by assumption) N2 (by assumption) rfl rfl ?_ ?_ ?_
  · ktr_room
  · ktr_units
  rintro v nw h' tk' ⟨rfl, rfl⟩ F3 N3
  clear F2 N2
  k_steps
  refine go ?_
  rename Fr _ _ _ _ => Fa
  refine comp_list Fa (by rfl) (by rfl) (by decide) (by rfl) (by decide) (by rfl) (by intro _; with_unfolding_all rfl) ?_
  k_steps
  rename Fr _ _ _ _ => Fb
  rename News _ _ _ _ => Nb
  refine ⟨hl, refs rows, ep, _, fun k ys nw => nw = _ ∧ ys = refs ((rows.take k).filter fun r => r.i ≠ i), rfl, by rw [refs, List.length_map]; exact hlen, .tail _ (.tail _ (.tail _ (.head _))), ?_, Fb, Nb, ⟨rfl, rfl⟩, ?_, ?_⟩
  · rintro _ _ _ ⟨rfl, _⟩
    exact .tail _ (.tail _ (.tail _ (.head _)))
  · clear Fb Nb
    rintro g k v ys nw I oI C oC D m₂ h tk E' hv ⟨rfl, rfl⟩ hC hx Fc Nc off ⟨ne1, ne2, ne3⟩
    obtain ⟨r, hr, rfl⟩ : ∃ r, rows[k]? = some r ∧ .ref r.a = v := by
      rw [refs, List.getElem?_map] at hv
      exact Option.map_eq_some_iff.mp hv
    have hmem : (r.a, r.obj) ∈ rest := hrows r (List.mem_of_getElem? hr)
    replace Nc := News_cons Nc (List.mem_cons_of_mem _ (List.mem_cons_of_mem _ (List.mem_cons_of_mem _ (List.mem_cons_of_mem _ (List.mem_cons_of_mem _ (List.mem_cons_of_mem _ (List.mem_cons_of_mem _ hmem)))))))
    obtain ⟨ra, rb, ri, rg, rt, ru⟩ := r
    dsimp only [Row.obj, rowO] at *
    refine wpAny_tests_one ?_
    k_steps
    · have hq : (ltr false ri != ltr false i) = true := by assumption
      have hq : ri ≠ i := fun e => by subst e; simp at hq
      rename Fr _ _ _ _ => Fe
      rename News _ _ _ _ => Ne
      refine LCg.CompEnd.intro Fe (News_tail Ne) _ (fun p hp => hp) off trivial ⟨rfl, ?_⟩
      rw [List.take_succ, hr, Option.toList_some, List.filter_append, refs, refs, List.map_append]
      simp [hq]
    · have hq : (ltr false ri != ltr false i) = false := by assumption
      have hq : ri = i := by
        refine Classical.byContradiction fun e => ?_
        have : ltr false ri ≠ ltr false i := fun h => e (ltr_eq.mp h)
        simp [this] at hq
      rename Fr _ _ _ _ => Fe
      rename News _ _ _ _ => Ne
      refine LCg.CompEnd.intro Fe (News_tail Ne) _ (fun p hp => hp) off trivial ⟨rfl, ?_⟩
      rw [List.take_succ, hr, Option.toList_some, List.filter_append]
      simp [hq]
  · clear Fb Nb
    rintro D h tk ys nw Fd Nd off1 ⟨rfl, rfl⟩
    rw [refs_len, List.take_length] at Nd
    k_steps
    rename Fr _ _ _ _ => Fe
    rename News _ _ _ _ => Ne
    have Ne2 : News _ _ _ ((hl, PySem.W.listOf (refs rows).toArray ep) :: _) := News_sub Ne (news' := (hl, PySem.W.listOf (refs rows).toArray ep) :: (D, LCg.lst (refs (rows.filter fun r => r.i ≠ i))) :: (sa, instObj 229 da) :: (da, headD w kt hl dn) :: rest) (by
      (repeat with_reducible refine List.forall_mem_cons.mpr ⟨(by (repeat first | with_reducible assumption | with_reducible exact List.mem_cons_self | with_reducible refine List.mem_cons_of_mem _ ?_ | with_reducible exact List.mem_append_left _ (by assumption) | with_reducible refine List.mem_append_right _ ?_)), ?_⟩); first | exact fun _ hq => absurd hq List.not_mem_nil | (intro q hq; (repeat first | with_reducible assumption | with_reducible exact List.mem_cons_self | with_reducible refine List.mem_cons_of_mem _ ?_ | with_reducible exact List.mem_append_left _ (by assumption) | with_reducible refine List.mem_append_right _ ?_); done) | (intro q hq; rcases List.mem_append.mp hq with hq | hq <;> (repeat first | with_reducible assumption | with_reducible exact List.mem_cons_self | with_reducible refine List.mem_cons_of_mem _ ?_ | with_reducible exact List.mem_append_left _ (by assumption) | with_reducible refine List.mem_append_right _ ?_)))
    refine setslice_new Fe Ne2 ?_ (.head _) (by rw [refs_len]; exact hlen) (by rw [refs_len]; exact Nat.lt_of_le_of_lt (List.length_filter_le _ _) hlen) ?_
    · intro p hp
      simp only [List.mem_cons] at hp
      rcases hp with rfl | rfl | rfl | hp
      · exact fun e => off1.2.2.2.1 e.symm
      · exact Nat.ne_of_gt (Nat.lt_trans o1 o2)
      · exact Nat.ne_of_gt o1
      · exact hne p hp
    intro h5 n5 F5 N5
    clear Fe Ne Ne2
    k_steps
    rename Fr _ _ _ _ => F6
    rename News _ _ _ _ => N6
    refine hret _ _ _ _ ⟨rfl, n5, rfl⟩ F6 ?_
    exact News_sub N6 (by
      (repeat with_reducible refine List.forall_mem_cons.mpr ⟨(by (repeat first | with_reducible assumption | with_reducible exact List.mem_cons_self | with_reducible refine List.mem_cons_of_mem _ ?_ | with_reducible exact List.mem_append_left _ (by assumption) | with_reducible refine List.mem_append_right _ ?_)), ?_⟩); first | exact fun _ hq => absurd hq List.not_mem_nil | (intro q hq; (repeat first | with_reducible assumption | with_reducible exact List.mem_cons_self | with_reducible refine List.mem_cons_of_mem _ ?_ | with_reducible exact List.mem_append_left _ (by assumption) | with_reducible refine List.mem_append_right _ ?_); done) | (intro q hq; rcases List.mem_append.mp hq with hq | hq <;> (repeat first | with_reducible assumption | with_reducible exact List.mem_cons_self | with_reducible refine List.mem_cons_of_mem _ ?_ | with_reducible exact List.mem_append_left _ (by assumption) | with_reducible refine List.mem_append_right _ ?_)))
end Mine
end
section
open PySem PySem.W PySem.Calls PyProof.Rows
namespace Mine
theorem fillG4 : (PySem.Challenge.rw_ty0055_01, Mine.hd.heap_1) = (PySem.Challenge.rw_ty0055_01, Mine.hd.heap_1) := by
  k_fill
  rfl

theorem del_inst {M : Model} {A : Around} {E : Value → Shared → Prop} {s : Shared} {K : Frag} {x C L f : Addr} {h₀ : Heap} {m : Str → Option Value} {ox : Obj} {od : Option Obj} {i : Value} {Q : Unit → Shared → Prop} (F : Fr h₀ L s.heap m) (X₀ : K.In h₀) (I : InstAt s.heap x ox C od) (hq : noSeq K C = true)
    (hs : findIn K (.ref C) "__delitem__" = some (some (.ref f))) (hf : isFn K (.ref f) = true) (h : wpAny M A (call (.ref f) [.ref x, i]) (fun _ s' => Q () s') E s) : wpAny M A (delItem (.ref x) i) Q E s := by
  have X := X₀.keeps F.keep
  unfold delItem sequenceKey
  refine wpAny_holding (wpAny_bind (wpAny_bind (I.type.here ?_)))
  refine wpAny_bind ((anyM_none X hq).here ?_)
  rw [if_pos (show (!false) = true from rfl)]
  exact wpAny_pure (wpAny_bind (special_fn X I hs (beq_iff_eq.mp hf) (wpAny_mono h (fun _ _ z => wpAny_pure z) fun _ _ z => z)))
local macro_rules | `(tactic| walk_at "delItem") => `(tactic| (k_here; k_dflt (refine' del_inst ?k1 ?k2 ?k3 ?k4 ?k5 ?k6 ?_; (case k1 => k_asm); (case k2 => k_asm); (case k3 => k_inst); (case k4 => k_is); (case k5 => k_is); (case k6 => k_is); k_whole)))
/-- what a stored head leaves -/
noncomputable def SetR (w : World) (kt : Tok) (sa da hl : Addr) (dn : Nat) (b : Bool) (i g : _root_.Fin 4) (u : Tok) (rows : List Row) (rest : List (Addr × Obj)) (v : Value) (nw : List (Addr × Obj)) : Prop :=
  ∃ T ep' t', (∀ q ∈ rest, @LT.lt Nat _ q.1 T) ∧ @LT.lt Nat _ sa T ∧ v = .none ∧ nw = (sa, instObj 229 da) :: (da, headD w kt hl dn) :: (hl, PySem.W.listOf (refs ((rows.filter fun r => r.i ≠ i) ++ [⟨T, b, i, g, t', u⟩])).toArray ep') :: (T, rowO (ltr b i) (ltr false g) t' u) :: rest
theorem SetR.on {w : World} {kt : Tok} {sa da hl : Addr} {dn : Nat} {b : Bool} {i g : _root_.Fin 4} {u : Tok} {rows : List Row} {rest : List (Addr × Obj)} {P : Value → List (Addr × Obj) → Heap → Nat → Prop}
    (k : ∀ T ep' t' h tk, (∀ q ∈ rest, @LT.lt Nat _ q.1 T) → @LT.lt Nat _ sa T → P .none ((sa, instObj 229 da) :: (da, headD w kt hl dn) :: (hl, PySem.W.listOf (refs ((rows.filter fun r => r.i ≠ i) ++ [⟨T, b, i, g, t', u⟩])).toArray ep') :: (T, rowO (ltr b i) (ltr false g) t' u) :: rest) h tk) (v : Value) (nw : List (Addr × Obj)) (h : Heap) (tk : Nat) (R : SetR w kt sa da hl dn b i g u rows rest v nw) : P v nw h tk := by
  obtain ⟨T, ep', t', h1, h2, rfl, rfl⟩ := R
  exact k T ep' t' h tk h1 h2
set_option maxRecDepth 100000 in
set_option maxHeartbeats 0 in
theorem setitem_spec (w : World) (kt : Tok) (sa da hl : Addr) (ep dn : Nat) (b : Bool) (i g : _root_.Fin 4) (t u : Tok) (rows : List Row) (rest : List (Addr × Obj)) (hrows : ∀ r ∈ rows, (r.a, r.obj) ∈ rest) (hlen : rows.length < 900) (o1 : @LT.lt Nat _ hl da) (o2 : @LT.lt Nat _ da sa) (hne : ∀ p ∈ rest, p.1 ≠ hl) :
    CallSpec 3 w 142 [.ref sa, .str (ltr b i) t, .str (ltr false g) u] [] ((sa, instObj 229 da) :: (da, headD w kt hl dn) :: (hl, PySem.W.listOf (refs rows).toArray ep) :: rest)
     (SetR w kt sa da hl dn b i g u rows rest) := by
  intro mean loose mg mb dp un gd cn cs a ccd cl outer A₀ base h₀ L m s Q E B F KX N T hk hdp hun hret
  w_on
  dsimp only [PG, KG, VG, S, headD, rowO, List.cons_append, List.nil_append] at *
  with_reducible (k_here; (with_reducible show wpAny _ (ktrTop _ _ _ _ _ _ _ _ _ _) _ _ _ _); (refine wpAny_call ?_); (k_dflt cell_enter))
  k_steps
  refine go ?_
  rename Fr _ _ _ _ => F2
  rename News _ _ _ _ => N2
  refine CallSpec.use (delitem_spec w kt sa da hl ep dn b i t rows rest hrows (by omega) o1 o2 hne) (by assumption) F2 (by assumption) N2 (by assumption) rfl rfl ?_ ?_ ?_
  · ktr_room
  · ktr_units
  rintro v nw h' tk' ⟨rfl, ep', rfl⟩ F3 N3
  clear F2 N2
  dsimp only [headD] at N3
  k_steps
  refine go ?_
  rename Fr _ _ _ _ => F2
  rename News _ _ _ _ => N2
  refine CallSpec.use (convert_spec w _ _ _ _ (ltr_mem _ _) _) (by assumption) F2 (by assumption) N2 (by assumption) rfl rfl ?_ ?_ ?_
  · ktr_room
  · ktr_units
  rintro v nw h' tk' ⟨rfl, rfl⟩ F3 N3
  clear F2 N2
  k_steps
  refine go ?_
  rename Fr _ _ _ _ => F2
  rename News _ _ _ _ => N2
  refine CallSpec.use (convert_spec w _ _ _ _ (ltr_mem _ _) _) (by assumption) F2 (by assumption) N2 (by assumption) rfl rfl ?_ ?_ ?_
  · ktr_room
  · ktr_units
  rintro v nw h' tk' ⟨rfl, rfl⟩ F3 N3
  clear F2 N2
  k_steps
  rename Fr _ _ _ _ => Fe
  rename News _ _ _ _ => Ne
  rename Addr => TT
  have hall : AllLt TT rest := (by assumption : @LT.lt Nat _ sa TT ∧ @LT.lt Nat _ da TT ∧ @LT.lt Nat _ hl TT ∧ AllLt TT rest).2.2.2
  have hst : @LT.lt Nat _ sa TT := (by assumption : @LT.lt Nat _ sa TT ∧ @LT.lt Nat _ da TT ∧ @LT.lt Nat _ hl TT ∧ AllLt TT rest).1
  have hlt : @LT.lt Nat _ hl TT := (by assumption : @LT.lt Nat _ sa TT ∧ @LT.lt Nat _ da TT ∧ @LT.lt Nat _ hl TT ∧ AllLt TT rest).2.2.1
  have Ne2 := News_sub Ne (news' := (hl, PySem.W.listOf (refs (rows.filter fun r => r.i ≠ i)).toArray ep') :: (sa, instObj 229 da) :: (da, headD w kt hl dn) :: (TT, rowO (ltr b i) (ltr false g) t u) :: rest) (by
      (repeat with_reducible refine List.forall_mem_cons.mpr ⟨(by (repeat first | with_reducible assumption | with_reducible exact List.mem_cons_self | with_reducible refine List.mem_cons_of_mem _ ?_ | with_reducible exact List.mem_append_left _ (by assumption) | with_reducible refine List.mem_append_right _ ?_)), ?_⟩); first | exact fun _ hq => absurd hq List.not_mem_nil | (intro q hq; (repeat first | with_reducible assumption | with_reducible exact List.mem_cons_self | with_reducible refine List.mem_cons_of_mem _ ?_ | with_reducible exact List.mem_append_left _ (by assumption) | with_reducible refine List.mem_append_right _ ?_); done) | (intro q hq; rcases List.mem_append.mp hq with hq | hq <;> (repeat first | with_reducible assumption | with_reducible exact List.mem_cons_self | with_reducible refine List.mem_cons_of_mem _ ?_ | with_reducible exact List.mem_append_left _ (by assumption) | with_reducible refine List.mem_append_right _ ?_)))
  refine append_led Fe Ne2 ?_ (by rw [refs_len]; exact Nat.lt_of_le_of_lt (List.length_filter_le _ _) (by omega)) ?_
  · intro p hp
    simp only [List.mem_cons] at hp
    rcases hp with rfl | rfl | rfl | hp
    · exact Nat.ne_of_gt (Nat.lt_trans o1 o2)
    · exact Nat.ne_of_gt o1
    · exact Nat.ne_of_gt hlt
    · exact hne p hp
  intro h5 F5 N5
  clear Fe Ne Ne2
  k_steps
  rename Fr _ _ _ _ => F6
  rename News _ _ _ _ => N6
  refine hret _ _ _ _ ⟨TT, ep' + 1, t, allLt_mem hall, hst, rfl, rfl⟩ F6 ?_
  refine News_sub N6 ?_
  have e : refs ((rows.filter fun r => r.i ≠ i) ++ [⟨TT, b, i, g, t, u⟩]) = refs (rows.filter fun r => r.i ≠ i) ++ [.ref TT] := by simp [refs]
  rw [e]
  (repeat with_reducible refine List.forall_mem_cons.mpr ⟨(by (repeat first | with_reducible assumption | with_reducible exact List.mem_cons_self | with_reducible refine List.mem_cons_of_mem _ ?_ | with_reducible exact List.mem_append_left _ (by assumption) | with_reducible refine List.mem_append_right _ ?_)), ?_⟩); first | exact fun _ hq => absurd hq List.not_mem_nil | (intro q hq; (repeat first | with_reducible assumption | with_reducible exact List.mem_cons_self | with_reducible refine List.mem_cons_of_mem _ ?_ | with_reducible exact List.mem_append_left _ (by assumption) | with_reducible refine List.mem_append_right _ ?_); done) | (intro q hq; rcases List.mem_append.mp hq with hq | hq <;> (repeat first | with_reducible assumption | with_reducible exact List.mem_cons_self | with_reducible refine List.mem_cons_of_mem _ ?_ | with_reducible exact List.mem_append_left _ (by assumption) | with_reducible refine List.mem_append_right _ ?_))
end Mine
end
section
open PySem PySem.W PySem.Calls PyProof.Rows
namespace Mine
local macro_rules | `(tactic| walk_at "one more line") => `(tactic| skip)
theorem fillG5 : (PySem.Challenge.rw_ty0055_01, Mine.hd.heap_1) = (PySem.Challenge.rw_ty0055_01, Mine.hd.heap_1) := by
  k_fill
  rfl

/-- the book: each letter once, with its head -/
structure Good (rows : List Row) (hd : _root_.Fin 4 → _root_.Fin 4) : Prop where
  nodup : (rows.map (·.i)).Nodup
  head : ∀ r ∈ rows, r.g = hd r.i
  has : ∀ j, ∃ r ∈ rows, r.i = j
  len : rows.length ≤ 4
theorem Good.get {rows : List Row} {hd : _root_.Fin 4 → _root_.Fin 4} (G : Good rows hd) (i : _root_.Fin 4) : ∃ u, getR rows i = .str (ltr false (hd i)) u := by
  obtain ⟨r, hr, hi⟩ := G.has i
  cases e : rows.find? (fun r => r.i = i) with
  | none => exact absurd hi (by simpa using List.find?_eq_none.mp e r hr)
  | some q =>
    have h1 := List.find?_some e
    have h2 := List.mem_of_find?_eq_some e
    refine ⟨q.u, ?_⟩
    rw [getR, e]
    have : q.i = i := by simpa using h1
    rw [← this, ← G.head q h2]
theorem Good.set {rows : List Row} {hd : _root_.Fin 4 → _root_.Fin 4} (G : Good rows hd) (T : Addr) (b : Bool) (i g : _root_.Fin 4) (t u : Tok) : Good ((rows.filter fun r => r.i ≠ i) ++ [⟨T, b, i, g, t, u⟩]) (fun j => if j = i then g else hd j) := by
  refine ⟨?_, ?_, ?_, ?_⟩
  · rw [List.map_append, List.nodup_append]
    refine ⟨List.Sublist.nodup (List.Sublist.map _ List.filter_sublist) G.nodup, by simp, ?_⟩
    intro a ha c hc
    rw [List.map_cons, List.map_nil, List.mem_singleton] at hc
    subst hc
    obtain ⟨r, hr, rfl⟩ := List.mem_map.mp ha
    simpa using (List.mem_filter.mp hr).2
  · intro r hr
    rcases List.mem_append.mp hr with hr | hr
    · have := List.mem_filter.mp hr
      have h2 : r.i ≠ i := by simpa using this.2
      rw [if_neg h2]; exact G.head r this.1
    · rw [List.mem_singleton] at hr
      subst hr
      simp
  · intro j
    by_cases h : j = i
    · exact ⟨⟨T, b, i, g, t, u⟩, List.mem_append_right _ (.head _), h.symm⟩
    · obtain ⟨r, hr, rfl⟩ := G.has j
      exact ⟨r, List.mem_append_left _ (List.mem_filter.mpr ⟨hr, by simpa using h⟩), rfl⟩
  · rw [List.length_append, List.length_singleton]
    obtain ⟨r, hr, hi⟩ := G.has i
    have : (rows.filter fun r => r.i ≠ i).length < rows.length := by
      rw [List.length_filter_lt_length_iff_exists]
      exact ⟨r, hr, by simpa using hi⟩
    have := G.len
    omega
theorem Good.congr {rows : List Row} {hd hd' : _root_.Fin 4 → _root_.Fin 4} (G : Good rows hd) (e : ∀ j, hd j = hd' j) : Good rows hd' := by
  have : hd = hd' := funext e
  rw [← this]; exact G
local macro_rules | `(tactic| walk_at "call builtin:str.swapcase") => `(tactic| refine call_swap ?_)
noncomputable def joinH (hd : _root_.Fin 4 → _root_.Fin 4) (i1 i2 : _root_.Fin 4) : _root_.Fin 4 → _root_.Fin 4 := fun j => if hd j = hd i2 then hd i1 else hd j
set_option maxRecDepth 100000 in
set_option maxHeartbeats 0 in
/-- what a join of heads leaves -/
noncomputable def JoinR (w : World) (kt : Tok) (sa da hl : Addr) (dn : Nat) (hd' : _root_.Fin 4 → _root_.Fin 4) (rows : List Row) (rest : List (Addr × Obj)) (v : Value) (nw : List (Addr × Obj)) : Prop :=
  ∃ rows' extra ep', Good rows' hd' ∧ (∀ r ∈ rows', r ∈ rows ∨ (r.a, r.obj) ∈ extra) ∧ (∀ p ∈ extra, @LT.lt Nat _ sa p.1 ∧ ∀ q ∈ rest, @LT.lt Nat _ q.1 p.1) ∧ v = .none ∧ nw = (sa, instObj 229 da) :: (da, headD w kt hl dn) :: (hl, PySem.W.listOf (refs rows').toArray ep') :: (extra ++ rest)
theorem JoinR.mk {w : World} {kt : Tok} {sa da hl : Addr} {dn : Nat} {hd' : _root_.Fin 4 → _root_.Fin 4} {rows : List Row} {rest : List (Addr × Obj)} (rows' : List Row) (extra : List (Addr × Obj)) (ep' : Nat) (h1 : Good rows' hd') (h2 : ∀ r ∈ rows', r ∈ rows ∨ (r.a, r.obj) ∈ extra) (h3 : ∀ p ∈ extra, @LT.lt Nat _ sa p.1 ∧ ∀ q ∈ rest, @LT.lt Nat _ q.1 p.1) : JoinR w kt sa da hl dn hd' rows rest .none ((sa, instObj 229 da) :: (da, headD w kt hl dn) :: (hl, PySem.W.listOf (refs rows').toArray ep') :: (extra ++ rest)) := ⟨rows', extra, ep', h1, h2, h3, rfl, rfl⟩
theorem JoinR.on {w : World} {kt : Tok} {sa da hl : Addr} {dn : Nat} {hd' : _root_.Fin 4 → _root_.Fin 4} {rows : List Row} {rest : List (Addr × Obj)} {P : Value → List (Addr × Obj) → Heap → Nat → Prop}
    (k : ∀ rows' extra ep' h tk, Good rows' hd' → (∀ r ∈ rows', r ∈ rows ∨ (r.a, r.obj) ∈ extra) → (∀ p ∈ extra, @LT.lt Nat _ sa p.1 ∧ ∀ q ∈ rest, @LT.lt Nat _ q.1 p.1) → P .none ((sa, instObj 229 da) :: (da, headD w kt hl dn) :: (hl, PySem.W.listOf (refs rows').toArray ep') :: (extra ++ rest)) h tk) (v : Value) (nw : List (Addr × Obj)) (h : Heap) (tk : Nat) (R : JoinR w kt sa da hl dn hd' rows rest v nw) : P v nw h tk := by
  obtain ⟨rows', extra, ep', h1, h2, h3, rfl, rfl⟩ := R
  exact k rows' extra ep' h tk h1 h2 h3
/-- what holds between the turns -/
inductive JoinI (w : World) (kt : Tok) (sa da hl c k : Nat) (dn : Nat) (hd : _root_.Fin 4 → _root_.Fin 4) (i1 i2 : _root_.Fin 4) (rows : List Row) (rest : List (Addr × Obj)) (n : Nat) (m₁ : Str → Option Value) : List (Addr × Obj) → Prop
  | mk (rows' : List Row) (extra : List (Addr × Obj)) (ep' : Nat) (t3 t4 : Tok) (h1 : Good rows' (fun j => if (∃ r ∈ rows.take n, r.i = j) ∧ hd j = hd i2 then hd i1 else hd j)) (h2 : ∀ r ∈ rows', r ∈ rows ∨ (r.a, r.obj) ∈ extra) (h3 : ∀ p ∈ extra, @LT.lt Nat _ sa p.1 ∧ ∀ q ∈ rest, @LT.lt Nat _ q.1 p.1)
    (e1 : m₁ (Str.ofString "book") = some (.ref sa)) (e2 : m₁ (Str.ofString "kept") = some (.str (ltr false (hd i1)) t3)) (e3 : m₁ (Str.ofString "lost") = some (.str (ltr false (hd i2)) t4)) :
    JoinI w kt sa da hl c k dn hd i1 i2 rows rest n m₁ ((c, PySem.W.listOf (refs rows).toArray k) :: (sa, instObj 229 da) :: (da, headD w kt hl dn) :: (hl, PySem.W.listOf (refs rows').toArray ep') :: (extra ++ rest))
theorem JoinI.mem {w : World} {kt : Tok} {sa da hl c k dn : Nat} {hd : _root_.Fin 4 → _root_.Fin 4} {i1 i2 : _root_.Fin 4} {rows : List Row} {rest : List (Addr × Obj)} (n : Nat) (m₁ : Str → Option Value) (nw : List (Addr × Obj)) (I : JoinI w kt sa da hl c k dn hd i1 i2 rows rest n m₁ nw) : (c, PySem.W.listOf (refs rows).toArray k) ∈ nw := by
  cases I
  exact .head _
theorem JoinI.fin {w : World} {kt : Tok} {sa da hl c k dn : Nat} {hd : _root_.Fin 4 → _root_.Fin 4} {i1 i2 : _root_.Fin 4} {rows : List Row} {rest : List (Addr × Obj)} {n : Nat} {F : Heap → (Str → Option Value) → Prop} {N : Heap → List (Addr × Obj) → Prop} {P : Heap → Nat → (Str → Option Value) → List (Addr × Obj) → Prop}
    (kk : ∀ h tk m₁ rows' extra ep' t3 t4, Good rows' (fun j => if (∃ r ∈ rows.take n, r.i = j) ∧ hd j = hd i2 then hd i1 else hd j) → (∀ r ∈ rows', r ∈ rows ∨ (r.a, r.obj) ∈ extra) → (∀ p ∈ extra, @LT.lt Nat _ sa p.1 ∧ ∀ q ∈ rest, @LT.lt Nat _ q.1 p.1) → m₁ (Str.ofString "book") = some (.ref sa) → m₁ (Str.ofString "kept") = some (.str (ltr false (hd i1)) t3) → m₁ (Str.ofString "lost") = some (.str (ltr false (hd i2)) t4) → F h m₁ → N h ((c, PySem.W.listOf (refs rows).toArray k) :: (sa, instObj 229 da) :: (da, headD w kt hl dn) :: (hl, PySem.W.listOf (refs rows').toArray ep') :: (extra ++ rest)) → P h tk m₁ ((c, PySem.W.listOf (refs rows).toArray k) :: (sa, instObj 229 da) :: (da, headD w kt hl dn) :: (hl, PySem.W.listOf (refs rows').toArray ep') :: (extra ++ rest))) (h : Heap) (tk : Nat) (m₁ : Str → Option Value) (nw : List (Addr × Obj)) (f : F h m₁) (nn : N h nw) (I : JoinI w kt sa da hl c k dn hd i1 i2 rows rest n m₁ nw) : P h tk m₁ nw := by
  cases I with | mk rows' extra ep' t3 t4 h1 h2 h3 e1 e2 e3 =>
  exact kk h tk m₁ rows' extra ep' t3 t4 h1 h2 h3 e1 e2 e3 f nn
theorem refs_on {P : Value → Prop} {rows : List Row} {hd : _root_.Fin 4 → _root_.Fin 4} {n : Nat} {v : Value} (G : Good rows hd) (hv : (refs rows)[n]? = some v) (k : ∀ ra rb ri rt ru, rows[n]? = some ⟨ra, rb, ri, hd ri, rt, ru⟩ → P (.ref ra)) : P v := by
  rw [refs, List.getElem?_map] at hv
  obtain ⟨r, hr, e⟩ := Option.map_eq_some_iff.mp hv
  have hg := G.head r (List.mem_of_getElem? hr)
  obtain ⟨ra, rb, ri, rg, rt, ru⟩ := r
  cases e
  dsimp only at hg
  subst hg
  exact k _ _ _ _ _ hr
theorem JoinI.on {w : World} {kt : Tok} {sa da hl c k dn : Nat} {hd : _root_.Fin 4 → _root_.Fin 4} {i1 i2 : _root_.Fin 4} {rows : List Row} {rest : List (Addr × Obj)} {P : Nat → Value → (Str → Option Value) → List (Addr × Obj) → Heap → Nat → Addr → Obj → Prop} (G : Good rows hd)
    (kk : ∀ n ra rb ri rt ru m₁ h tk I o rows' extra ep' t3 t4, rows[n]? = some ⟨ra, rb, ri, hd ri, rt, ru⟩ → Good rows' (fun j => if (∃ r ∈ rows.take n, r.i = j) ∧ hd j = hd i2 then hd i1 else hd j) → (∀ r ∈ rows', r ∈ rows ∨ (r.a, r.obj) ∈ extra) → (∀ p ∈ extra, @LT.lt Nat _ sa p.1 ∧ ∀ q ∈ rest, @LT.lt Nat _ q.1 p.1) → m₁ (Str.ofString "book") = some (.ref sa) → m₁ (Str.ofString "kept") = some (.str (ltr false (hd i1)) t3) → m₁ (Str.ofString "lost") = some (.str (ltr false (hd i2)) t4) → P n (.ref ra) m₁ ((c, PySem.W.listOf (refs rows).toArray k) :: (sa, instObj 229 da) :: (da, headD w kt hl dn) :: (hl, PySem.W.listOf (refs rows').toArray ep') :: (extra ++ rest)) h tk I o)
    (n : Nat) (v : Value) (m₁ : Str → Option Value) (nw : List (Addr × Obj)) (h : Heap) (tk : Nat) (I : Addr) (o : Obj) (hv : (refs rows)[n]? = some v) (J : JoinI w kt sa da hl c k dn hd i1 i2 rows rest n m₁ nw) : P n v m₁ nw h tk I o := by
  cases J with | mk rows' extra ep' t3 t4 h1 h2 h3 e1 e2 e3 =>
  refine refs_on (v := v) (P := fun v => P n v m₁ _ h tk I o) G hv fun ra rb ri rt ru hr => ?_
  exact kk _ _ _ _ _ _ _ _ _ _ _ rows' extra ep' t3 t4 hr h1 h2 h3 e1 e2 e3
theorem join_spec (w : World) (kt : Tok) (sa da hl : Addr) (ep dn : Nat) (b1 b2 : Bool) (i1 i2 : _root_.Fin 4) (t1 t2 : Tok) (rows : List Row) (hd : _root_.Fin 4 → _root_.Fin 4) (G : Good rows hd) (rest : List (Addr × Obj)) (hrows : ∀ r ∈ rows, (r.a, r.obj) ∈ rest) (o1 : @LT.lt Nat _ hl da) (o2 : @LT.lt Nat _ da sa) (hne : ∀ p ∈ rest, p.1 ≠ hl) :
    CallSpec 5 w 247 [.ref sa, .str (ltr b1 i1) t1, .str (ltr b2 i2) t2] [] ((sa, instObj 229 da) :: (da, headD w kt hl dn) :: (hl, PySem.W.listOf (refs rows).toArray ep) :: rest)
     (JoinR w kt sa da hl dn (joinH hd i1 i2) rows rest) := by
  intro mean loose mg mb dp un gd cn cs a ccd cl outer A₀ base h₀ L m s Q E B F KX N T hk hdp hun hret
  w_on
  dsimp only [PG, KG, VG, S, headD, rowO, List.cons_append, List.nil_append] at *
  obtain ⟨u1, g1⟩ := G.get i1
  obtain ⟨u2, g2⟩ := G.get i2
  with_reducible (k_here; (with_reducible show wpAny _ (ktrTop _ _ _ _ _ _ _ _ _ _) _ _ _ _); (refine wpAny_call ?_); (k_dflt cell_enter))
  k_steps
  refine go ?_
  rename Fr _ _ _ _ => F2
  rename News _ _ _ _ => N2
  refine CallSpec.use (get_spec w kt sa da hl ep dn b1 i1 t1 rows rest hrows) (by assumption) F2 (by assumption) N2 (by assumption) rfl rfl ?_ ?_ ?_
  · ktr_room
  · ktr_units
  rintro v nw h' tk' ⟨rfl, rfl⟩ F3 N3
  clear F2 N2
  rw [g1] at *
  k_steps
  refine go ?_
  rename Fr _ _ _ _ => F2
  rename News _ _ _ _ => N2
  refine CallSpec.use (get_spec w kt sa da hl ep dn b2 i2 t2 rows rest hrows) (by assumption) F2 (by assumption) N2 (by assumption) rfl rfl ?_ ?_ ?_
  · ktr_room
  · ktr_units
  rintro v nw h' tk' ⟨rfl, rfl⟩ F3 N3
  clear F2 N2
  rw [g2] at *
  dsimp only [headD] at N3
  k_steps
  · have hq : (ltr false (hd i1) != ltr false (hd i2)) = true := by assumption
    have hq : hd i1 ≠ hd i2 := fun e => by rw [e] at hq; simp at hq
    rename Fr _ _ _ _ => Fa
    refine @For_list _ _ _ _ _ _ _ _ _ _ _ _ _ Fa (by rfl) (by intro _; with_unfolding_all rfl) (by passes_own) ?_
    k_steps
    refine go ?_
    rename Fr _ _ _ _ => F2
    rename News _ _ _ _ => N2
    refine CallSpec.use (items_spec w kt sa da hl ep dn rows (by have := G.len; omega) rest) (by assumption) F2 (by assumption) N2 (by assumption) rfl rfl ?_ ?_ ?_
    · ktr_room
    · ktr_units
    refine ItemsR.on fun c k h' tk' hc F3 N3 => ?_
    clear F2 N2
    refine ListLoop.mk c (refs rows) k _ _ (JoinI w kt sa da hl c k dn hd i1 i2 rows rest) rfl (.head _) JoinI.mem F3 N3 (.mk rows [] ep _ _ ?_ (fun r hr => .inl hr) (fun _ hp => absurd hp List.not_mem_nil) rfl rfl rfl) ?_ ?_
    · exact G.congr fun j => by simp
    · clear F3 N3
      refine JoinI.on G fun n ra rb ri rt ru m₁ h tk I o rows' extra ep' t3 t4 hr G' hro hex e1 e2 e3 hI Fc Nc => ?_
      have hrows' : ∀ r ∈ rows', (r.a, r.obj) ∈ extra ++ rest := fun r hr => (hro r hr).elim (fun h => List.mem_append_right _ (hrows r h)) (fun h => List.mem_append_left _ h)
      replace Fc := Fr_knows Fc [(Str.ofString "book", .ref sa), (Str.ofString "kept", .str (ltr false (hd i1)) t3), (Str.ofString "lost", .str (ltr false (hd i2)) t4)] (by simp [e1, e2, e3])
      dsimp only [know] at Fc
      clear e1 e2 e3
      have hmem : (ra, rowO (ltr rb ri) (ltr false (hd ri)) rt ru) ∈ extra ++ rest := List.mem_append_right _ (hrows _ (List.mem_of_getElem? hr))
      replace Nc := News_cons Nc (List.mem_cons_of_mem _ (List.mem_cons_of_mem _ (List.mem_cons_of_mem _ (List.mem_cons_of_mem _ (List.mem_cons_of_mem _ hmem)))))
      have hIhl : I ≠ hl := fun e => hI (hl, _) (.tail _ (.tail _ (.tail _ (.head _)))) e.symm
      have hehl : ∀ p ∈ extra ++ rest, p.1 ≠ hl := fun p hp => by
        rcases List.mem_append.mp hp with hp | hp
        · exact Nat.ne_of_gt (Nat.lt_trans (Nat.lt_trans o1 o2) (hex p hp).1)
        · exact hne p hp
      dsimp only [rowO, headD] at Nc
      generalize hxs : extra ++ rest = xs at *
      have htk : ∀ j, (∃ r ∈ rows.take (n + 1), r.i = j) ↔ ((∃ r ∈ rows.take n, r.i = j) ∨ j = ri) := fun j => by
        rw [List.take_succ, hr, Option.toList_some]
        constructor
        · rintro ⟨r, h, rfl⟩
          rcases List.mem_append.mp h with h | h
          · exact .inl ⟨r, h, rfl⟩
          · rw [List.mem_singleton] at h
            subst h; exact .inr rfl
        · rintro (⟨r, h, rfl⟩ | rfl)
          · exact ⟨r, List.mem_append_left _ h, rfl⟩
          · exact ⟨_, List.mem_append_right _ (.head _), rfl⟩
      k_steps
      · have hy : (ltr false (hd ri) == ltr false (hd i2)) = true := by assumption
        have hy : hd ri = hd i2 := ltr_eq.mp (eq_of_beq hy)
        refine go ?_
        rename Fr _ _ _ _ => F2
        rename News _ _ _ _ => N2
        have N3 := News_sub N2 (news' := (sa, instObj 229 da) :: (da, headD w kt hl dn) :: (hl, PySem.W.listOf (refs rows').toArray ep') :: (I, o) :: (c, PySem.W.listOf (refs rows).toArray k) :: xs) (by
          (repeat with_reducible refine List.forall_mem_cons.mpr ⟨(by (repeat first | with_reducible assumption | with_reducible exact List.mem_cons_self | with_reducible refine List.mem_cons_of_mem _ ?_ | with_reducible exact List.mem_append_left _ (by assumption) | with_reducible refine List.mem_append_right _ ?_)), ?_⟩); first | exact fun _ hq => absurd hq List.not_mem_nil | (intro q hq; (repeat first | with_reducible assumption | with_reducible exact List.mem_cons_self | with_reducible refine List.mem_cons_of_mem _ ?_ | with_reducible exact List.mem_append_left _ (by assumption) | with_reducible refine List.mem_append_right _ ?_); done) | (intro q hq; rcases List.mem_append.mp hq with hq | hq <;> (repeat first | with_reducible assumption | with_reducible exact List.mem_cons_self | with_reducible refine List.mem_cons_of_mem _ ?_ | with_reducible exact List.mem_append_left _ (by assumption) | with_reducible refine List.mem_append_right _ ?_)))
        refine CallSpec.use (setitem_spec w kt sa da _ ep' dn (!rb) ri (hd i1) _ t3 rows' ((I, o) :: (c, PySem.W.listOf (refs rows).toArray k) :: xs) (fun r hr => .tail _ (.tail _ (hrows' r hr))) (by have := G'.len; omega) o1 o2 ?_) (by assumption) F2 (by assumption) N3 (by assumption) rfl rfl ?_ ?_ ?_
        · intro p hp
          simp only [List.mem_cons] at hp
          rcases hp with rfl | rfl | hp
          · exact hIhl
          · exact Nat.ne_of_gt hc
          · exact hehl p hp
        · ktr_room
        · ktr_units
        refine SetR.on fun T ep2 tt h' tk' hT1 hT2 F4 N4 => ?_
        subst hxs
        clear F2 N2 N3
        k_steps
        rename Fr _ _ _ _ => F6
        rename News _ _ _ _ => N6
        refine TurnU.intro F6 (nw := (c, PySem.W.listOf (refs rows).toArray k) :: (sa, instObj 229 da) :: (da, headD w kt _ dn) :: (_, PySem.W.listOf (refs ((rows'.filter fun r => r.i ≠ ri) ++ [⟨T, !rb, ri, hd i1, tt, t3⟩])).toArray ep2) :: ((T, rowO (ltr (!rb) ri) (ltr false (hd i1)) tt t3) :: extra ++ rest)) (News_sub N6 ?_) ?_ (.mk _ ((T, rowO (ltr (!rb) ri) (ltr false (hd i1)) tt t3) :: extra) ep2 _ _ ?_ ?_ ?_ rfl rfl rfl)
        · show ∀ p ∈ (I, o) :: (c, PySem.W.listOf (refs rows).toArray k) :: (sa, instObj 229 da) :: (da, headD w kt hl dn) :: (hl, _) :: (T, rowO (ltr (!rb) ri) (ltr false (hd i1)) tt t3) :: (extra ++ rest), p ∈ _
          (repeat with_reducible refine List.forall_mem_cons.mpr ⟨(by (repeat first | with_reducible assumption | with_reducible exact List.mem_cons_self | with_reducible refine List.mem_cons_of_mem _ ?_ | with_reducible exact List.mem_append_left _ (by assumption) | with_reducible refine List.mem_append_right _ ?_)), ?_⟩); first | exact fun _ hq => absurd hq List.not_mem_nil | (intro q hq; (repeat first | with_reducible assumption | with_reducible exact List.mem_cons_self | with_reducible refine List.mem_cons_of_mem _ ?_ | with_reducible exact List.mem_append_left _ (by assumption) | with_reducible refine List.mem_append_right _ ?_); done) | (intro q hq; rcases List.mem_append.mp hq with hq | hq <;> (repeat first | with_reducible assumption | with_reducible exact List.mem_cons_self | with_reducible refine List.mem_cons_of_mem _ ?_ | with_reducible exact List.mem_append_left _ (by assumption) | with_reducible refine List.mem_append_right _ ?_))
        · intro p hp
          rcases List.mem_cons.mp hp with rfl | hp
          · exact hI _ (.head _)
          rcases List.mem_cons.mp hp with rfl | hp
          · exact hI _ (.tail _ (.head _))
          rcases List.mem_cons.mp hp with rfl | hp
          · exact hI _ (.tail _ (.tail _ (.head _)))
          rcases List.mem_cons.mp hp with rfl | hp
          · exact fun e => hIhl e.symm
          rcases List.mem_cons.mp hp with rfl | hp
          · exact Nat.ne_of_gt (hT1 (I, o) (.head _))
          · exact hI _ (.tail _ (.tail _ (.tail _ (.tail _ hp))))
        · refine (G'.set T (!rb) ri (hd i1) tt t3).congr fun j => ?_
          by_cases hj : j = ri
          · subst hj
            have : ∃ r ∈ rows.take (n + 1), r.i = j := (htk j).mpr (.inr rfl)
            simp [this, hy]
          · simp only [htk, hj, or_false, if_false]
        · intro r hr
          rcases List.mem_append.mp hr with hr | hr
          · exact (hro r ((List.mem_filter.mp hr).1)).imp id (fun h => .tail _ h)
          · rw [List.mem_singleton] at hr
            subst hr
            exact .inr (.head _)
        · intro p hp
          rcases List.mem_cons.mp hp with rfl | hp
          · exact ⟨hT2, fun q hq => hT1 q (.tail _ (.tail _ (List.mem_append_right _ hq)))⟩
          · exact hex p hp
      · have hy : (ltr false (hd ri) == ltr false (hd i2)) = false := by assumption
        have hy : hd ri ≠ hd i2 := fun e => by rw [e] at hy; simp at hy
        rename Fr _ _ _ _ => F6
        rename News _ _ _ _ => N6
        subst hxs
        refine TurnU.intro F6 (News_tail N6) hI (.mk rows' extra ep' _ _ (G'.congr fun j => ?_) hro hex rfl rfl rfl)
        by_cases hj : j = ri
        · subst hj
          simp [hy]
        · simp only [htk, hj, or_false]
    · refine JoinI.fin fun h' tk m' rows' extra ep' t3 t4 G' hrows' hex e1 e2 e3 F4 N4 => ?_
      k_steps
      rename Fr _ _ _ _ => F6
      rename News _ _ _ _ => N6
      refine hret _ _ _ _ (.mk rows' extra ep' (G'.congr fun j => ?_) hrows' hex) F6 (News_tail N6)
      rw [refs_len, List.take_length, joinH]
      have := G.has j
      simp [this]
  · have hq : (ltr false (hd i1) != ltr false (hd i2)) = false := by assumption
    have hq : hd i1 = hd i2 := Classical.byContradiction fun e => by
      have : ltr false (hd i1) ≠ ltr false (hd i2) := fun h => e (ltr_eq.mp h)
      simp [this] at hq
    rename Fr _ _ _ _ => F6
    rename News _ _ _ _ => N6
    refine hret _ _ _ _ (.mk rows [] ep (G.congr fun j => ?_) (fun r hr => .inl hr) (fun _ hp => absurd hp List.not_mem_nil)) F6 N6
    rw [joinH]
    split
    · rename_i h; rw [h, hq]
    · rfl
end Mine
end
section
open PySem PySem.W PySem.Calls PyProof.Rows
namespace Mine
theorem fillQ3 : (PySem.Challenge.rw_ty0055_01, Mine.hd.heap_1) = (PySem.Challenge.rw_ty0055_01, Mine.hd.heap_1) := by
  k_fill
  rfl

local macro_rules | `(tactic| walk_at "getMethod ref") => `(tactic| (k_here; (with_reducible show wpAny _ _ (getMethod (Value.ref _) (PySem.Str.ofString "sub") _) _ _ _); k_dflt (refine' sub_method ?F ?X ?p ?_; (case F => k_asm); (case X => k_asm); (case p => k_is))))
noncomputable def dotCodes : List Value := [iv 14, iv 4, iv 0, iv 1, iv 1, iv 6, iv 1, iv 16, iv 46, iv 1]
noncomputable def endCodes : List Value := [iv 14, iv 9, iv 4, iv 1, iv 2, iv 16, iv 10, iv 16, iv 13, iv 0, iv 7, iv 7, iv 16, iv 13, iv 16, iv 10, iv 15, iv 18, iv 5, iv 16, iv 10, iv 15, iv 13, iv 11, iv 16, iv 13, iv 5, iv 5, iv 0, iv 16, iv 10, iv 1, iv 15, iv 2, iv 0, iv 1]
theorem dotC_eq : codeOf dotCodes = dotC := by decide +kernel
theorem endC_eq : codeOf endCodes = endC := by decide +kernel
theorem str_len {l : List Nat} (h : l.length < 1000) : (⟨l.toArray⟩ : Str).length ≤ sizeLine := by
  show l.toArray.size ≤ _
  rw [List.size_toArray, sizeLine_eq]; omega
set_option maxRecDepth 100000 in
set_option maxHeartbeats 0 in
theorem quote_spec (w : World) (e r : List Nat) (ts : List (List Nat)) (t : Tok) (he : e = [10] ∨ e = [13] ∨ e = [13, 10]) (hr : ∀ c ∈ r, c ≠ 10 ∧ c ≠ 13) (ht : ∀ t ∈ ts, ∀ c ∈ t, c ≠ 10 ∧ c ≠ 13) (hl : ts.length < 59)
   (hs1 : (joinT e (46 :: r) (ts.map fun t => 46 :: t)).length ≤ 190) (hs2 : (joinT [13, 10] (46 :: r) (ts.map fun t => 46 :: t)).length ≤ 190) (hs3 : (joinT [13, 10] (46 :: 46 :: r) (ts.map fun t => 46 :: 46 :: t)).length ≤ 190) (news : List (Addr × Obj)) :
    CallSpec 1 w 55 [.str ⟨(joinT e (46 :: r) (ts.map fun t => 46 :: t)).toArray⟩ t] [] news (fun v nw => (∃ t', v = .str ⟨(joinT [13, 10] (46 :: 46 :: r) (ts.map fun t => 46 :: 46 :: t)).toArray⟩ t') ∧ nw = news) := by
  intro mean loose mg mb dp un gd cn cs a ccd cl outer A₀ base h₀ L m s Q E B F KX N T hk hdp hun hret
  w_on
  dsimp only [PG, KG, VG, S] at *
  obtain ⟨o1, a1, a2, a3⟩ := end_ok e he (46 :: r) (ts.map fun t => 46 :: t) (by
      simp only [List.mem_cons]
      rintro c (rfl | h)
      · decide
      · exact hr c h) (by simp) (by
      simp only [List.mem_map]
      rintro t ⟨t', h, rfl⟩
      refine ⟨by simp, ?_⟩
      simp only [List.mem_cons]
      rintro c (rfl | h')
      · decide
      · exact ht _ h c h') (by rw [List.length_map]; omega)
  obtain ⟨o2, b1, b2, b3⟩ := dot_ok r ts (fun c h => (hr c h).1) (fun t h c h' => (ht t h c h').1) hl hs2
  dsimp only [glue0] at a2 b2
  with_reducible (k_here; (with_reducible show wpAny _ (ktrTop _ _ _ _ _ _ _ _ _ _) _ _ _ _); (refine wpAny_call ?_); (k_dflt cell_enter))
  k_steps
  refine go ?_
  rename Fr _ _ _ _ => F2
  rename News _ _ _ _ => N2
  refine sub_call (src := _) (fl := _) (codes := endCodes) o1 60 F2 N2 (by assumption) (by k_is) (by k_is) ?_ ?_ ?_ ?_ a3 ?_ ?_
  · rw [a2]; exact str_len (by omega)
  · show (List.toArray _).size < 1000
    rw [List.size_toArray]; omega
  · decide +kernel
  · rw [endC_eq]; exact a1
  · exact notLong (n := (joinT [13, 10] (46 :: r) (ts.map fun t => 46 :: t)).length) (by rw [glue0, a2]) (by omega)
  clear F2 N2
  intro h' tk t' F2 N2
  rw [a2]
  k_steps
  refine go ?_
  refine sub_call (src := _) (fl := _) (codes := dotCodes) o2 60 F2 N2 (by assumption) (by k_is) (by k_is) ?_ ?_ ?_ ?_ b3 ?_ ?_
  · rw [b2]; exact str_len (by omega)
  · show (List.toArray _).size < 1000
    rw [List.size_toArray]; omega
  · decide +kernel
  · rw [dotC_eq]; exact b1
  · exact notLong (n := (joinT [13, 10] (46 :: 46 :: r) (ts.map fun t => 46 :: 46 :: t)).length) (by rw [glue0, b2]) (by omega)
  clear F2 N2
  intro h' tk t' F2 N2
  rw [b2]
  k_steps
  clear F2 N2
  rename Fr _ _ _ _ => F2
  rename News _ _ _ _ => N2
  exact hret _ _ _ _ ⟨⟨_, rfl⟩, rfl⟩ F2 N2
end Mine
end
section
open PySem PySem.W PySem.Calls PyProof.Rows PySem.Spec
namespace Mine
/-- a thing to loop over: what its walker reads beside itself stands in kp -/
noncomputable def SrcAt (prog : Program) (w : World) (A : Around) (xv : Value) (s₁ : Shared) (kp : List (Addr × Obj)) (n : Nat) (P : Nat → Value → Prop) : Prop :=
  ∀ (E : Value → Shared → Prop) (Q' : Value → Shared → Prop),
    (∀ o fp St, (∀ b ∈ fp, b ≠ s₁.heap.objs.size → ∃ p ∈ kp, p.1 = b) → Walks prog w A s₁.heap.objs.size fp [s₁.heap.objs.size] n P St → (∀ i h, St i h → ∃ o, h.get? s₁.heap.objs.size = some o) → St 0 (s₁.heap.push o) → Q' (.ref s₁.heap.objs.size) { s₁ with heap := s₁.heap.push o }) →
    wpAny (model prog w) A (pyIter xv) Q' E s₁
section
variable {prog : Program} {w : World} {A : Around} {s₁ : Shared} {h₀ : Heap} {L : Addr} {news : List (Addr × Obj)}
theorem SrcAt.list {l : Addr} {vs : List Value} {ep : Nat} (hh : A.handled = none) (N : News h₀ L s₁.heap news) (hm : (l, PySem.W.listOf vs.toArray ep) ∈ news) : SrcAt prog w A (.ref l) s₁ [(l, PySem.W.listOf vs.toArray ep)] vs.length (fun i v => vs[i]? = some v) := by
  intro E Q' h
  have hls : s₁.heap.IsList l vs.toArray := News_isList N hm
  have hlt : l < s₁.heap.objs.size := Heap.lt_size (N _ hm).1
  refine wpAny_pyIter_list hls ?_
  have W := Walks.list (prog := prog) (w := w) hh s₁.heap.objs.size l (Nat.ne_of_lt hlt) vs.toArray
  have hlen : vs.toArray.size = vs.length := List.size_toArray ..
  rw [hlen] at W
  have e : (fun (i : Nat) (v : Value) => vs.toArray[i]? = some v) = (fun i v => vs[i]? = some v) := by
    funext i v
    rw [List.getElem?_toArray]
  rw [e] at W
  refine h _ _ _ ?_ W ?_ ⟨⟨_, Heap.get?_push_size _ rfl, rfl, rfl⟩, hls.at fun o e => Heap.get?_push_of_some _ e⟩
  · intro b hb hne
    rcases List.mem_cons.mp hb with e | hb
    · exact absurd e hne
    · exact ⟨_, .head _, (List.mem_singleton.mp hb).symm⟩
  · rintro i h ⟨⟨o, ho, _⟩, _⟩; exact ⟨o, ho⟩
theorem SrcAt.range {r : Addr} {a b : Int} {t u v : Tok} {n : Nat} (hh : A.handled = none) (hr : IsRange s₁.heap r a b 1 t u v) (hsm : Builtin.Range.small a b 1 = true) (hn : Builtin.Range.rangeSize a b 1 = (n : Int)) : SrcAt prog w A (.ref r) s₁ [] n (fun i v => ∃ t, v = .int (a + i) t) := by
  intro E Q' h
  refine wpAny_pyIter_range hr hsm ?_
  have W := Walks.range (prog := prog) (w := w) hh s₁.heap.objs.size a 1 n
  have e : (fun (i : Nat) (v : Value) => ∃ t, v = .int (a + i * 1) t) = (fun i v => ∃ t, v = .int (a + i) t) := by
    funext i v
    rw [Int.mul_one]
  rw [e] at W
  refine h _ _ _ ?_ W ?_ (by show IsRangeIter _ _ _ _ _; rw [hn]; simpa using Heap.get?_push_size _ rfl)
  · intro b hb hne
    exact absurd (List.mem_singleton.mp hb) hne
  · exact fun i h st => ⟨_, st⟩
theorem SrcAt.str {x : Str} {t : Tok} (hh : A.handled = none) : SrcAt prog w A (.str x t) s₁ [] x.cps.size (SignAt x) := by
  intro E Q' h
  cases ha : x.cps.all (· < 128)
  · refine wpAny_pyIter_wide ha (h _ _ _ ?_ (Walks.strWide hh _ x t) ?_ ⟨_, Heap.get?_push_size _ rfl, rfl, rfl⟩)
    · intro b hb hne; exact absurd (List.mem_singleton.mp hb) hne
    · rintro i h ⟨o, ho, _⟩; exact ⟨o, ho⟩
  · refine wpAny_pyIter_ascii ha (h _ _ _ ?_ (Walks.strAscii hh _ x t) ?_ ⟨_, Heap.get?_push_size _ rfl, rfl, rfl⟩)
    · intro b hb hne; exact absurd (List.mem_singleton.mp hb) hne
    · rintro i h ⟨o, ho, _⟩; exact ⟨o, ho⟩
end
noncomputable def obOf (kp : List (Addr × Obj)) (b : Addr) : Obj := ((kp.find? fun p => p.1 == b).map (·.2)).getD (PySem.W.listOf #[] 0)
theorem obOf_mem {kp : List (Addr × Obj)} {b : Addr} (h : ∃ p ∈ kp, p.1 = b) : (b, obOf kp b) ∈ kp := by
  unfold obOf
  cases e : kp.find? fun p => p.1 == b with
  | none =>
    obtain ⟨p, hp, rfl⟩ := h
    exact absurd (List.find?_eq_none.mp e p hp) (by simp)
  | some q =>
    have h1 : q.1 = b := by simpa using List.find?_some e
    have h2 := List.mem_of_find?_eq_some e
    show (b, q.2) ∈ kp
    rw [← h1]; exact h2
section
variable {prog : Program} {w : World} {A : Around} {E : Value → Shared → Prop} {s : Shared} {env : Env} {h₀ : Heap} {body : List Stmt} {L : Addr} {m : Str → Option Value}
/-- what is to be shown of a loop over such a thing -/
noncomputable def SrcLoop (prog : Program) (w : World) (A : Around) (h₀ : Heap) (env : Env) (target : Expr) (body : List Stmt) (Q : Flow → Shared → Prop) (E : Value → Shared → Prop) (xv : Value) (s₁ : Shared) : Prop :=
  ∃ (kp : List (Addr × Obj)) (n : Nat) (P : Nat → Value → Prop) (m : Str → Option Value) (news : List (Addr × Obj)) (J : Nat → (Str → Option Value) → List (Addr × Obj) → Prop),
    SrcAt prog w A xv s₁ kp n P ∧ (∀ i m₁ nw, J i m₁ nw → ∀ p ∈ kp, p ∈ nw) ∧ Fr h₀ env.locals s₁.heap m ∧ News h₀ env.locals s₁.heap news ∧ J 0 m news ∧
    (∀ i v m₁ nw h tk I o, i < n → P i v → J i m₁ nw → (∀ p ∈ nw, p.1 ≠ I) → Fr h₀ env.locals h m₁ → News h₀ env.locals h ((I, o) :: nw) →
      wpAny (model prog w) A (assign target env v) (fun _ s₃ => wpAny (model prog w) A (execs body env) (TurnR h₀ env.locals I o (J (i + 1)) { s₁ with heap := h, toks := tk } fun v s' => Q (.ret v) s') E s₃) E { s₁ with heap := h, toks := tk }) ∧
    ∀ h' tk m' nw, Fr h₀ env.locals h' m' → News h₀ env.locals h' nw → J n m' nw → Q .next { s₁ with heap := h', toks := tk }
theorem SrcLoop.mk {prog : Program} {w : World} {A : Around} {h₀ : Heap} {env : Env} {target : Expr} {body : List Stmt} {Q : Flow → Shared → Prop} {E : Value → Shared → Prop} {xv : Value} {s₁ : Shared} (kp : List (Addr × Obj)) (n : Nat) (P : Nat → Value → Prop) (m : Str → Option Value) (news : List (Addr × Obj)) (J : Nat → (Str → Option Value) → List (Addr × Obj) → Prop) (a0 : SrcAt prog w A xv s₁ kp n P) (a1 : (∀ i m₁ nw, J i m₁ nw → ∀ p ∈ kp, p ∈ nw)) (a2 : Fr h₀ env.locals s₁.heap m) (a3 : News h₀ env.locals s₁.heap news) (a4 : J 0 m news) (a5 : (∀ i v m₁ nw h tk I o, i < n → P i v → J i m₁ nw → (∀ p ∈ nw, p.1 ≠ I) → Fr h₀ env.locals h m₁ → News h₀ env.locals h ((I, o) :: nw) →
      wpAny (model prog w) A (assign target env v) (fun _ s₃ => wpAny (model prog w) A (execs body env) (TurnR h₀ env.locals I o (J (i + 1)) { s₁ with heap := h, toks := tk } fun v s' => Q (.ret v) s') E s₃) E { s₁ with heap := h, toks := tk })) (a6 : ∀ h' tk m' nw, Fr h₀ env.locals h' m' → News h₀ env.locals h' nw → J n m' nw → Q .next { s₁ with heap := h', toks := tk }) : SrcLoop prog w A h₀ env target body Q E xv s₁ := ⟨kp, n, P, m, news, J, a0, a1, a2, a3, a4, a5, a6⟩
/-- a loop with a plain name -/
theorem For_src {Q : Flow → Shared → Prop} {iter : Expr} {pos : Pos} {x : Str} {px : Pos} {m₀ : Str → Option Value} (_F : Fr h₀ env.locals s.heap m₀) (hs : ∀ x, foldedSetIterable iter env x = pure x) (hE : PassesOwn (model prog w) A env E)
    (he : wpAny (model prog w) A (eval iter env) (SrcLoop prog w A h₀ env (.Name x px) body Q E) E s) :
    wpAny (model prog w) A (exec (.For (.Name x px) iter body [] pos) env) Q E s := by
  refine wpAny_For (wpAny_mono he (fun xv s₁ h₁ => ?_) fun _ _ e => e) hs
  obtain ⟨kp, n, P, m, news, J, S, hJk, F, N, h0, turn, done⟩ := h₁
  refine S _ _ fun o fp St hfp W hSt hst => ?_
  refine code_walk (h₀ := h₀) (R := fun r s' => match r with | .ok f => Q f s' | .error e => cameBackBy (model prog w) A env E e s') (obOf kp) W (next_is_new F) (Nat.ne_of_lt F.ns.lt) (fun p hp => Nat.ne_of_lt (Heap.lt_size (N p hp).1)) hSt hst (F.push _) ?_ ?_ J ?_ h0 ?_ ?_
  · exact fun p hp => ⟨Heap.get?_push_of_some _ (N p hp).1, (N p hp).2⟩
  · intro i s' v Q' _ hq
    exact wpAny_passesOwn hE (by unfold letOwnedTupleGo; exact wpAny_pure hq)
  · exact fun i m₁ nw hJ b hb hbI => hJk _ _ _ hJ _ (obOf_mem (hfp b hb hbI))
  · rintro i v m₁ nw s₂ o hi hP hJ hne F₁ N₁ ⟨h, tk, rfl⟩
    exact wpAny_mono (turn i v m₁ nw h tk _ o hi hP hJ hne F₁ N₁) (fun _ _ x => wpAny_passesOwn hE x) hE
  · exact done
/-- what is to be shown of a comprehension over such a thing -/
noncomputable def SrcComp (prog : Program) (w : World) (A : Around) (h₀ : Heap) (L : Addr) (m : Str → Option Value) (env : Env) (elt : PySem.Expr) (ifs : List PySem.Expr) (x : Str) (scope : Scope) (cl : List (Str × Addr)) (Q : Addr → List Value → List (Addr × Obj) → Heap → Nat → Shared → Prop) (xv : Value) (s₁ : Shared) : Prop :=
  ∃ (kp : List (Addr × Obj)) (n : Nat) (P : Nat → Value → Prop) (news : List (Addr × Obj)) (J : Nat → List Value → List (Addr × Obj) → Prop),
    SrcAt prog w A xv s₁ kp n P ∧ n < 1000 ∧ (∀ i ys nw, J i ys nw → ∀ p ∈ kp, p ∈ nw) ∧ Fr h₀ L s₁.heap m ∧ News h₀ L s₁.heap news ∧ (∀ p ∈ kp, p ∈ news) ∧ J 0 [] news ∧
    (∀ g, CTurn prog w A h₀ L m env elt ifs x scope cl { s₁ with heap := g } (fun i v => i < n ∧ P i v) J) ∧
    ∀ D h tk ys nw, Fr h₀ L h m → News h₀ L h ((D, LCg.lst ys) :: nw) → LCg.Off1 D nw → J n ys nw → Q D ys nw h tk s₁
theorem SrcComp.mk {prog : Program} {w : World} {A : Around} {h₀ : Heap} {L : Addr} {m : Str → Option Value} {env : Env} {elt : PySem.Expr} {ifs : List PySem.Expr} {x : Str} {scope : Scope} {cl : List (Str × Addr)} {Q : Addr → List Value → List (Addr × Obj) → Heap → Nat → Shared → Prop} {xv : Value} {s₁ : Shared} (kp : List (Addr × Obj)) (n : Nat) (P : Nat → Value → Prop) (news : List (Addr × Obj)) (J : Nat → List Value → List (Addr × Obj) → Prop) (a0 : SrcAt prog w A xv s₁ kp n P) (a1 : n < 1000) (a2 : (∀ i ys nw, J i ys nw → ∀ p ∈ kp, p ∈ nw)) (a3 : Fr h₀ L s₁.heap m) (a4 : News h₀ L s₁.heap news) (a5 : (∀ p ∈ kp, p ∈ news)) (a6 : J 0 [] news) (a7 : (∀ g, CTurn prog w A h₀ L m env elt ifs x scope cl { s₁ with heap := g } (fun i v => i < n ∧ P i v) J)) (a8 : ∀ D h tk ys nw, Fr h₀ L h m → News h₀ L h ((D, LCg.lst ys) :: nw) → LCg.Off1 D nw → J n ys nw → Q D ys nw h tk s₁) : SrcComp prog w A h₀ L m env elt ifs x scope cl Q xv s₁ := ⟨kp, n, P, news, J, a0, a1, a2, a3, a4, a5, a6, a7, a8⟩
theorem walks_bnd {I : Addr} {fp wr : List Addr} {n : Nat} {P : Nat → Value → Prop} {St : Nat → Heap → Prop} (W : Walks prog w A I fp wr n P St) : Walks prog w A I fp wr n (fun i v => i < n ∧ P i v) St := W.bound
theorem src_comp_core {elt iter : PySem.Expr} {ifs : List PySem.Expr} {x : Str} {px : Pos} {scope : Scope} {cl : List (Str × Addr)} {pos : Pos} {xv : Value} {s₁ : Shared} {Q : Addr → List Value → List (Addr × Obj) → Heap → Nat → Shared → Prop} {RR : Value → Addr → Result → Shared → Prop}
    (hcell : ∀ y ∈ scope.names, y.2 ≠ .cell) (hkind : scope.kind = .function) (hx : scope.names.lookup x = some .local)
    (h₁ : SrcComp prog w A h₀ L m env elt ifs x scope cl Q xv s₁)
    (hRR : ∀ D C h tk m' ys news', Fr h₀ L h m → News h₀ L h ((D, LCg.lst ys) :: news') → LCg.Off1 D news' → h.Ns C m' → h₀.get? C = none → h₀.get? D = none → C ≠ L → D ≠ L → C ≠ D → (∀ p ∈ news', p.1 ≠ C) →
      (∀ h₂ tk₂, Fr h₀ L h₂ m → News h₀ L h₂ ((D, LCg.lst ys) :: news') → Q D ys news' h₂ tk₂ s₁) → RR (.ref D) C (.ok .next) { s₁ with heap := h, toks := tk }) :
    wpAny (model prog w) A (pyIter xv) (fun it s₂ => wpAny (model prog w) A (newList []) (fun acc s₃ => wpAny (model prog w) A (newFunctionEnv scope env.globals cl [] env.qual none .none (some env)) (fun cenv s₄ =>
      codeAny (model prog w) A (.compStart (.ListComp elt [⟨.Name x px, iter, ifs, 0⟩] scope pos) 0 it acc { cenv with scope := relabel scope env }) (RR acc cenv.locals) s₄) E s₃) E s₂) E s₁ := by
  obtain ⟨kp, n, P, news, J, S, hsz, hJk, F, N, hkn, h0, turn, done⟩ := h₁
  refine S _ _ fun o fp St hfp W hSt hst => ?_
  have up : ∀ b o', s₁.heap.get? b = some o' → (s₁.heap.push o).get? b = some o' := fun b o e => Heap.get?_push_of_some _ e
  refine comp_block (obOf kp) (walks_bnd W) (by rw [sizeLine_eq]; omega) hSt hcell hkind hx hst (fun b hb => ?_)
    (F.keeps up) (N.grown up) (Nat.ne_of_lt F.ns.lt) (next_is_new F) (fun p hp => Nat.ne_of_lt (Heap.lt_size (N p hp).1)) J ?_ h0 (turn _) ?_
  · show b < (s₁.heap.push _).objs.size
    rw [Heap.size_push]
    by_cases e : b = s₁.heap.objs.size
    · rw [e]; exact Nat.lt_succ_self _
    · obtain ⟨p, hp, rfl⟩ := hfp b hb e
      exact Nat.lt_succ_of_lt (Heap.lt_size (N _ (hkn _ hp)).1)
  · exact fun i ys nw hJ b hb hbI => hJk _ _ _ hJ _ (obOf_mem (hfp b hb hbI))
  · intro D C h tk m' ys news' F' N' o1 hn hC₀ hD₀ hCL hDL hCD offC fin
    exact hRR D C h tk m' ys news' F' N' o1 hn hC₀ hD₀ hCL hDL hCD offC fun h₂ tk₂ F₂ N₂ => done D h₂ tk₂ ys news' F₂ N₂ o1 fin
theorem comp_src {elt iter : PySem.Expr} {ifs : List PySem.Expr} {x : Str} {px : Pos} {scope : Scope} {cl : List (Str × Addr)} {pos : Pos} {Q : Value → Shared → Prop} (_F : Fr h₀ L s.heap m)
    (hclos : closureFor scope env = pure cl) (hcell : ∀ y ∈ scope.names, y.2 ≠ .cell) (hkind : scope.kind = .function)
    (hnames : ∀ y ∈ scope.names, y.2 = .local → scope.names.lookup y.1 = some .local) (hx : scope.names.lookup x = some .local)
    (hs : ∀ x, foldedSetIterable iter env x = pure x)
    (h : wpAny (model prog w) A (eval iter env) (SrcComp prog w A h₀ L m env elt ifs x scope cl fun D _ _ h tk s₁ => Q (.ref D) { s₁ with heap := h, toks := tk }) E s) :
    wpAny (model prog w) A (eval (.ListComp elt [⟨.Name x px, iter, ifs, 0⟩] scope pos) env) Q E s := by
  rw [eval_ListComp]
  refine wpAny_comprehension_free (use := none) rfl hs hclos hkind hnames (wpAny_mono h (fun xv s₁ h₁ => ?_) fun _ _ e => e)
  refine src_comp_core hcell hkind hx h₁ ?_
  intro D C h tk m' ys news' F' N' o1 hn hC₀ hD₀ hCL hDL hCD offC fin
  refine ⟨m', hn, fun h'' hs'' => fin h'' tk (F'.change hs'' hCL hC₀) (fun p hp => ?_)⟩
  refine ⟨hs''.extBut _ _ ?_ (N' p hp).1, (N' p hp).2⟩
  rcases List.mem_cons.mp hp with rfl | hp
  · exact Ne.symm hCD
  · exact offC p hp
/-- a name that takes a comprehension -/
theorem assign_comp {elt iter : PySem.Expr} {ifs : List PySem.Expr} {x y : Str} {px py : Pos} {scope : Scope} {cl : List (Str × Addr)} {pos spos : Pos} {Q : Flow → Shared → Prop} (_F : Fr h₀ env.locals s.heap m)
    (hsw : swapsWith (.ListComp elt [⟨.Name x px, iter, ifs, 0⟩] scope pos) (some (.Name y py)) spos.line env = pure true)
    (hclos : closureFor scope env = pure cl) (hcell : ∀ y ∈ scope.names, y.2 ≠ .cell) (hkind : scope.kind = .function)
    (hnames : ∀ y ∈ scope.names, y.2 = .local → scope.names.lookup y.1 = some .local) (hx : scope.names.lookup x = some .local)
    (hs : ∀ x, foldedSetIterable iter env x = pure x)
    (hy : env.kindOf y = some .local) (hp : (env.scope.kind == .class || (env.scope.kind == .module && env.locals != env.globals)) = false)
    (h : wpAny (model prog w) A (eval iter env) (SrcComp prog w A h₀ env.locals m env elt ifs x scope cl fun D ys nw _ _ s₁ => ∀ h tk, Fr h₀ env.locals h (fun z => if z = y then some (.ref D) else m z) → News h₀ env.locals h ((D, LCg.lst ys) :: nw) → Q .next { s₁ with heap := h, toks := tk }) E s) :
    wpAny (model prog w) A (exec (.Assign [.Name y py] (.ListComp elt [⟨.Name x px, iter, ifs, 0⟩] scope pos) spos) env) Q E s := by
  rw [exec_Assign_Name_used _ _ _ _ hsw]
  refine wpAny_bind (wpAny_standAt (wpAny_bind ?_))
  show wpAny _ A (do let _ ← comprehension (.ListComp elt [⟨.Name x px, iter, ifs, 0⟩] scope pos) scope env _ (newList []) false (eval iter env) (some (assign (.Name y py) env))) _ _ s
  refine wpAny_bind (wpAny_mono (wpAny_comprehension_free (use := some (assign (.Name y py) env)) (Q := fun _ s' => Q .next s') rfl hs hclos hkind hnames
    (wpAny_mono h (fun xv s₁ h₁ => ?_) fun _ _ e => e)) (fun _ s' hq => wpAny_pure (wpAny_pure hq)) fun _ _ e => e)
  refine src_comp_core hcell hkind hx h₁ ?_
  intro D C h tk m' ys news' F' N' o1 hn hC₀ hD₀ hCL hDL hCD offC fin
  show wpAny _ A (assign (.Name y py) env (.ref D)) _ _ _
  refine wpAny_assign_Name (wpAny_storeName_local hy F'.ns (fun h₂ hn₂ hs₂ => ?_) hp)
  have hL₀ : h₀.get? env.locals = none := Heap.get?_none_of_le F'.above
  have F₂ : Fr h₀ env.locals h₂ (fun z => if z = y then some (.ref D) else m z) := ⟨hn₂, fun b o e => hs₂.extBut b o (fun q => by rw [q, hL₀] at e; cases e) (F'.keep b o e), F'.above⟩
  refine ⟨m', hn.sameBut hs₂ hCL, fun h'' hs'' => fin h tk F' N' h'' _ (F₂.change hs'' hCL hC₀) (fun p hp => ?_)⟩
  have z : h₂.get? p.1 = some p.2 := hs₂.extBut _ _ (N' p hp).2.1 (N' p hp).1
  refine ⟨hs''.extBut _ _ ?_ z, (N' p hp).2⟩
  rcases List.mem_cons.mp hp with rfl | hp
  · exact Ne.symm hCD
  · exact offC p hp
end
end Mine
end
section
open PySem PySem.W PySem.Calls PyProof.Rows
namespace Mine
/-- a statement's body -/
noncomputable def forBody : Stmt → List Stmt
  | .For _ _ body _ _ => body
  | _ => []
noncomputable def lawAt (n : Nat) : Stmt := lawBody.getD n (.Pass ⟨0, 0, 0, 0⟩)
noncomputable def lvBody : List Stmt := forBody (lawAt 13)
/-- the pairs: first and second isle -/
noncomputable def fstP : _root_.Fin 6 → _root_.Fin 4
  | 0 => 0 | 1 => 0 | 2 => 0 | 3 => 1 | 4 => 1 | 5 => 2
noncomputable def sndP : _root_.Fin 6 → _root_.Fin 4
  | 0 => 1 | 1 => 2 | 2 => 3 | 3 => 2 | 4 => 3 | 5 => 3
noncomputable def codeL (i : _root_.Fin 4) : Nat := 97 + i.val
noncomputable def pairL (p : _root_.Fin 6) : List Nat := [codeL (fstP p), codeL (sndP p)]
noncomputable def pairS (p : _root_.Fin 6) : Str := ⟨(pairL p).toArray⟩
/-- a row: dots and a pair -/
noncomputable def rowL (k : Nat) (p : _root_.Fin 6) : List Nat := List.replicate k 46 ++ pairL p
noncomputable def rowS (k : Nat) (p : _root_.Fin 6) : Str := ⟨(rowL k p).toArray⟩
theorem ltr_code : ∀ i, ltr false i = ⟨#[codeL i]⟩ := by decide +kernel
theorem rowS_len (k : Nat) (p : _root_.Fin 6) : (rowS k p).length = k + 2 := by
  show (List.toArray _).size = _
  simp [rowL, pairL]
theorem know_if {g : Str → Option Value} {y a : Str} {v : Value} {z : Option Value} [Decidable (y = a)] (h : g a = some v) (e : z = g y) : (if y = a then some v else z) = g y := by
  by_cases q : y = a
  · subst q; rw [if_pos rfl, h]
  · rw [if_neg q, e]
theorem row_m2 : ∀ k < 8, ∀ p, Txt.item (rowS k p) (-2) = ltr false (fstP p) := by decide +kernel
theorem row_m1 : ∀ k < 8, ∀ p, Txt.item (rowS k p) (-1) = ltr false (sndP p) := by decide +kernel
theorem row_s2 : ∀ k < 8, ∀ p, Txt.slice (rowS k p) (some (-2)) none = pairS p := by decide +kernel
theorem pair_0 : ∀ p, Txt.item (pairS p) 0 = ltr false (fstP p) := by decide +kernel
theorem pair_1 : ∀ p, Txt.item (pairS p) 1 = ltr false (sndP p) := by decide +kernel
theorem abcd_find : ∀ i, Txt.find (S "abcd") (ltr false i) = (i.val : Int) := by decide +kernel
theorem row_1 : ∀ p, (S "." ++ pairS p) = rowS 1 p := by decide +kernel
theorem row_mul : ∀ k < 8, ∀ p, 0 < k → (Txt.mul (S ".") (k : Nat)) ++ pairS p = rowS k p := by decide +kernel
theorem pairS_len (p : _root_.Fin 6) : (pairS p).length = 2 := rfl
section
variable {prog : Program} {w : World} {A : Around} {E : Value → Shared → Prop} {s : Shared} {k : Nat} {p : _root_.Fin 6} {t u : Tok} {value slice : Expr} {Q : Value → Shared → Prop}
theorem row_item2 (hk : k < 8) (h : Q (.str (ltr false (fstP p)) s.toks) { s with toks := s.toks + 1 })
    (hs : subscripted slice false (.str (rowS k p) t) (.int (-2) u) = operate [.str (rowS k p) t, .int (-2) u] (getItem (.str (rowS k p) t) (.int (-2) u)) := by with_unfolding_all rfl)
    (ht : ∀ r, letTemporaryGo value (.str (rowS k p) t) r = pure () := by intro _; with_unfolding_all rfl) : wpAny (model prog w) A (subscriptTail value slice (.str (rowS k p) t) (.int (-2) u)) Q E s := by
  refine item_str (by decide) (by rw [rowS_len]; omega) (by rw [rowS_len]; omega) (fun _ => ?_) hs ht
  rw [row_m2 k hk]; exact h
theorem row_item1 (hk : k < 8) (h : Q (.str (ltr false (sndP p)) s.toks) { s with toks := s.toks + 1 })
    (hs : subscripted slice false (.str (rowS k p) t) (.int (-1) u) = operate [.str (rowS k p) t, .int (-1) u] (getItem (.str (rowS k p) t) (.int (-1) u)) := by with_unfolding_all rfl)
    (ht : ∀ r, letTemporaryGo value (.str (rowS k p) t) r = pure () := by intro _; with_unfolding_all rfl) : wpAny (model prog w) A (subscriptTail value slice (.str (rowS k p) t) (.int (-1) u)) Q E s := by
  refine item_str (by decide) (by rw [rowS_len]; omega) (by rw [rowS_len]; omega) (fun _ => ?_) hs ht
  rw [row_m1 k hk]; exact h
theorem pair_item0 (h : Q (.str (ltr false (fstP p)) s.toks) { s with toks := s.toks + 1 })
    (hs : subscripted slice false (.str (pairS p) t) (.int 0 u) = operate [.str (pairS p) t, .int 0 u] (getItem (.str (pairS p) t) (.int 0 u)) := by with_unfolding_all rfl)
    (ht : ∀ r, letTemporaryGo value (.str (pairS p) t) r = pure () := by intro _; with_unfolding_all rfl) : wpAny (model prog w) A (subscriptTail value slice (.str (pairS p) t) (.int 0 u)) Q E s := by
  refine item_str (by decide) (by rw [pairS_len]; omega) (by rw [pairS_len]; omega) (fun _ => ?_) hs ht
  rw [pair_0]; exact h
theorem pair_item1 (h : Q (.str (ltr false (sndP p)) s.toks) { s with toks := s.toks + 1 })
    (hs : subscripted slice false (.str (pairS p) t) (.int 1 u) = operate [.str (pairS p) t, .int 1 u] (getItem (.str (pairS p) t) (.int 1 u)) := by with_unfolding_all rfl)
    (ht : ∀ r, letTemporaryGo value (.str (pairS p) t) r = pure () := by intro _; with_unfolding_all rfl) : wpAny (model prog w) A (subscriptTail value slice (.str (pairS p) t) (.int 1 u)) Q E s := by
  refine item_str (by decide) (by rw [pairS_len]; omega) (by rw [pairS_len]; omega) (fun _ => ?_) hs ht
  rw [pair_1]; exact h
theorem call_index {i : _root_.Fin 4} (hA : A.handled = none) (h : Q (.int i.val s.toks) { s with toks := s.toks + 1 }) : wpAny (model prog w) A (call (.builtin "str.index") [.str (S "abcd") t, .str (ltr false i) u]) Q E s := by
  refine index_or hA (fun e => ?_) (fun _ _ => ?_)
  · rw [abcd_find] at e
    omega
  · rw [abcd_find]; exact h
end
end Mine
namespace Mine
noncomputable def lvAt (n : Nat) : Stmt := lvBody.getD n (.Pass ⟨0, 0, 0, 0⟩)
theorem StrsAre.getAt {vs : List Value} {ss : List Str} (h : StrsAre vs ss) {i : Nat} {v : Value} (hv : vs[i]? = some v) : ∃ x t, ss[i]? = some x ∧ v = .str x t := by
  induction h generalizing i with
  | nil => simp at hv
  | cons x t h ih =>
    cases i with
    | zero => simp at hv; exact ⟨x, t, rfl, hv.symm⟩
    | succ i => simpa using ih (by simpa using hv)
theorem StrsAre.snoc {vs : List Value} {ss : List Str} (h : StrsAre vs ss) (x : Str) (t : Tok) : StrsAre (vs ++ [.str x t]) (ss ++ [x]) := by
  induction h with
  | nil => exact .cons x t .nil
  | cons y u h ih => exact .cons y u ih
theorem StrsAre.len {vs : List Value} {ss : List Str} (h : StrsAre vs ss) : vs.length = ss.length := by
  induction h with
  | nil => rfl
  | cons y u h ih => simp [ih]
theorem take_snoc {α : Type} {l : List α} {i : Nat} {x : α} (h : l[i]? = some x) : l.take (i + 1) = l.take i ++ [x] := by
  rw [List.take_add_one, h]; rfl
end Mine
namespace Mine
theorem kn0 {m : Str → Option Value} : ∀ p ∈ ([] : List (Str × Value)), m p.1 = some p.2 := fun _ h => nomatch h
theorem kn1 {m : Str → Option Value} {x : Str} {v : Value} {ps : List (Str × Value)} (h : m x = some v) (r : ∀ p ∈ ps, m p.1 = some p.2) : ∀ p ∈ (x, v) :: ps, m p.1 = some p.2 := fun p hp => by
  rcases List.mem_cons.mp hp with rfl | hp
  · exact h
  · exact r p hp
end Mine
namespace Mine
noncomputable def headsV (hd : _root_.Fin 4 → _root_.Fin 4) (tu : _root_.Fin 4 → Tok) : List Value := [Value.str (ltr false (hd 0)) (tu 0), Value.str (ltr false (hd 1)) (tu 1), Value.str (ltr false (hd 2)) (tu 2), Value.str (ltr false (hd 3)) (tu 3)]
theorem heads_at (hd : _root_.Fin 4 → _root_.Fin 4) (tu : _root_.Fin 4 → Tok) (i : _root_.Fin 4) : (headsV hd tu)[((i.val : Nat) : Int).toNat]? = some (.str (ltr false (hd i)) (tu i)) := by
  match i with
  | 0 => rfl
  | 1 => rfl
  | 2 => rfl
  | 3 => rfl
/-- a list's item by a letter's place -/
theorem heads_item {prog : Program} {w : World} {A : Around} {E : Value → Shared → Prop} {s : Shared} {value slice : Expr} {l : Addr} {hd : _root_.Fin 4 → _root_.Fin 4} {tu : _root_.Fin 4 → Tok} {ep : Nat} {i : _root_.Fin 4} {u : Tok} {Q : Value → Shared → Prop} {h₀ : Heap} {L : Addr} {news : List (Addr × Obj)}
    (N : News h₀ L s.heap news) (hm : (l, W.listOf (headsV hd tu).toArray ep) ∈ news) (h : Q (.str (ltr false (hd i)) (tu i)) s)
    (hs : subscripted slice false (.ref l) (.int i.val u) = operate [.ref l, .int i.val u] (getItem (.ref l) (.int i.val u)) := by with_unfolding_all rfl) :
    wpAny (model prog w) A (subscriptTail value slice (.ref l) (.int i.val u)) Q E s :=
  item_any (News_isList N hm) (by omega) (by have := i.isLt; omega) (heads_at hd tu i) h hs
end Mine
end
section
open PySem PySem.W PySem.Calls PyProof.Rows PySem.Spec
set_option maxRecDepth 100000
namespace Mine
/-- the different ones among the first -/
noncomputable def SrcAt2 (prog : Program) (w : World) (A A' : Around) (xv : Value) (s₁ : Shared) (kp : List (Addr × Obj)) (n : Nat) (P : Nat → Value → Prop) : Prop :=
  ∀ (E : Value → Shared → Prop) (Q' : Value → Shared → Prop),
    (∀ o fp St, (∀ b ∈ fp, b ≠ s₁.heap.objs.size → ∃ p ∈ kp, p.1 = b) → Walks prog w A' s₁.heap.objs.size fp [s₁.heap.objs.size] n P St → (∀ i h, St i h → ∃ o, h.get? s₁.heap.objs.size = some o) → St 0 (s₁.heap.push o) → Q' (.ref s₁.heap.objs.size) { s₁ with heap := s₁.heap.push o }) →
    wpAny (model prog w) A (pyIter xv) Q' E s₁
theorem SrcAt2.list {prog : Program} {w : World} {A A' : Around} {s₁ : Shared} {l : Addr} {vs : List Value} {ep : Nat} (hh : A'.handled = none) (hls : s₁.heap.IsList l vs.toArray) : SrcAt2 prog w A A' (.ref l) s₁ [(l, PySem.W.listOf vs.toArray ep)] vs.length (fun i v => vs[i]? = some v) := by
  intro E Q' h
  have hlt : l < s₁.heap.objs.size := by obtain ⟨o, ho, _⟩ := hls; exact Heap.lt_size ho
  refine wpAny_pyIter_list hls ?_
  have W := Walks.list (prog := prog) (w := w) hh s₁.heap.objs.size l (Nat.ne_of_lt hlt) vs.toArray
  have hlen : vs.toArray.size = vs.length := List.size_toArray ..
  rw [hlen] at W
  have e : (fun (i : Nat) (v : Value) => vs.toArray[i]? = some v) = (fun i v => vs[i]? = some v) := by
    funext i v
    rw [List.getElem?_toArray]
  rw [e] at W
  refine h _ _ _ ?_ W ?_ ⟨⟨_, Heap.get?_push_size _ rfl, rfl, rfl⟩, hls.at fun o e => Heap.get?_push_of_some _ e⟩
  · intro b hb hne
    rcases List.mem_cons.mp hb with e | hb
    · exact absurd e hne
    · exact ⟨_, .head _, (List.mem_singleton.mp hb).symm⟩
  · rintro i h ⟨⟨o, ho, _⟩, _⟩; exact ⟨o, ho⟩
theorem SrcAt2.str {prog : Program} {w : World} {A A' : Around} {s₁ : Shared} {x : Str} {t : Tok} (hh : A'.handled = none) : SrcAt2 prog w A A' (.str x t) s₁ [] x.cps.size (SignAt x) := by
  intro E Q' h
  cases ha : x.cps.all (· < 128)
  · refine wpAny_pyIter_wide ha (h _ _ _ ?_ (Walks.strWide hh _ x t) ?_ ⟨_, Heap.get?_push_size _ rfl, rfl, rfl⟩)
    · intro b hb hne; exact absurd (List.mem_singleton.mp hb) hne
    · rintro i h ⟨o, ho, _⟩; exact ⟨o, ho⟩
  · refine wpAny_pyIter_ascii ha (h _ _ _ ?_ (Walks.strAscii hh _ x t) ?_ ⟨_, Heap.get?_push_size _ rfl, rfl, rfl⟩)
    · intro b hb hne; exact absurd (List.mem_singleton.mp hb) hne
    · rintro i h ⟨o, ho, _⟩; exact ⟨o, ho⟩
noncomputable def met (val : Nat → Str) : Nat → List Str
  | 0 => []
  | i + 1 => if val i ∈ met val i then met val i else met val i ++ [val i]
theorem met_len (val : Nat → Str) : ∀ i, (met val i).length ≤ i
  | 0 => Nat.le_refl _
  | i + 1 => by
    have := met_len val i
    unfold met
    split
    · omega
    · rw [List.length_append, List.length_singleton]; omega
section
variable {prog : Program} {w : World} {A : Around} {R : Result → Shared → Prop} {I : Addr} {fp : List Addr} {n : Nat} {P : Nat → Value → Prop} {St : Nat → Heap → Prop}
theorem upd_loop (W : Walks prog w A.in1 I fp [I] n P St) (D : Addr) (hD : D ∉ fp) (val : Nat → Str) (hval : ∀ i v, P i v → ∃ t, v = .str (val i) t) (hn : n + 1 < scanBound) :
    ∀ (k i : Nat) (s : Shared), i + k = n → St i s.heap → s.heap.SetOf (PySem.strKind prog w) D (fun x => decide (x ∈ met val i)) (met val i).length →
      (∀ h' tk, (∀ b o, b ≠ D → b ≠ I → s.heap.get? b = some o → h'.get? b = some o) → h'.SetOf (PySem.strKind prog w) D (fun x => decide (x ∈ met val n)) (met val n).length → R (.ok (.ret .none)) { s with heap := h', toks := tk }) →
      codeAny (model prog w) A (.builtin "set.update.loop" ⟨[.ref D, .ref I], []⟩) R s := by
  have hI : I ∈ fp := W.sub I (.head _)
  have hDI : D ≠ I := fun e => hD (e ▸ hI)
  intro k
  induction k with
  | zero =>
    intro i s e st hs hR
    have e : i = n := e
    subst e
    refine codeAny_builtin F.entry_set_update_loop ?_
    rw [Around.under_plainId F.plain_set_update_loop _]
    show wpAny _ A.in1 (pyNext (.ref I) >>= _) _ _ s
    refine wpAny_bind (W.done s _ _ st fun h' tk hk => ?_)
    show wpAny _ A.in1 (ret Value.none) _ _ _
    refine wpAny_pure (hR h' tk (fun b o _ hb e => hk b o (by simpa using hb) e) ?_)
    obtain ⟨o, es, ep, t, ho, r⟩ := hs
    exact ⟨o, es, ep, t, hk D o (by simpa using hDI) ho, r⟩
  | succ k ih =>
    intro i s e st hs hR
    refine codeAny_builtin F.entry_set_update_loop ?_
    rw [Around.under_plainId F.plain_set_update_loop _]
    show wpAny _ A.in1 (pyNext (.ref I) >>= _) _ _ s
    refine wpAny_bind (W.item i s _ _ (by omega) st fun v h₁ tk₁ hP st₁ hk₁ => ?_)
    obtain ⟨t, rfl⟩ := hval i v hP
    have hs₁ : h₁.SetOf (PySem.strKind prog w) D (fun x => decide (x ∈ met val i)) (met val i).length := by
      obtain ⟨o, es, ep, t, ho, r⟩ := hs
      exact ⟨o, es, ep, t, hk₁ D o (by simpa using hDI) ho, r⟩
    show wpAny _ A.in1 (holding [Value.str (val i) t] (setAdd D (.str (val i) t)) >>= _) _ _ _
    refine wpAny_bind (wpAny_holding ?_)
    unfold setAdd
    refine wpAny_holding ?_
    refine wpAny_bind ((PySem.strKind prog w).pyHash (k := val i) (strKind_is _ _ _ _) ?_)
    have hroom : (met val i).length + 1 < scanBound := by have := met_len val i; omega
    refine wpAny_setAddHashed_of (knd := PySem.strKind prog w) (k := val i) (strKind_is _ _ _ _) rfl hs₁ hroom fun h₂ hsb hs₂ => ?_
    have hs₃ : h₂.SetOf (PySem.strKind prog w) D (fun x => decide (x ∈ met val (i + 1))) (met val (i + 1)).length := by
      have e1 : (fun x => decide (x ∈ met val i) || decide (x = val i)) = fun x => decide (x ∈ met val (i + 1)) := by
        funext x
        show _ = decide (x ∈ if val i ∈ met val i then met val i else met val i ++ [val i])
        by_cases hm : val i ∈ met val i
        · rw [if_pos hm]
          by_cases hx : x = val i
          · subst hx; simp [hm]
          · simp [hx]
        · rw [if_neg hm]
          simp
      have e2 : (if decide (val i ∈ met val i) = true then (met val i).length else (met val i).length + 1) = (met val (i + 1)).length := by
        show _ = (if val i ∈ met val i then met val i else met val i ++ [val i]).length
        by_cases hm : val i ∈ met val i
        · simp [hm]
        · simp [hm]
      rw [← e1, ← e2]; exact hs₂
    refine wpAny_pure ⟨plainId_quiet F.plain_set_update_loop _, ih (i + 1) _ (by omega) (W.frame _ _ _ st₁ fun b hb o e => ?_) hs₃ fun h₃ tk₃ hk₃ hs₄ => ?_⟩
    · exact hsb.extBut b o (fun h : b = D => hD (h ▸ hb)) e
    · refine hR h₃ tk₃ (fun b o hb hbI e => hk₃ b o hb hbI (hsb.extBut b o hb (hk₁ b o (by simpa using hbI) e))) hs₄
end

section
variable {prog : Program} {w : World} {A : Around} {E : Value → Shared → Prop} {s : Shared}
set_option maxHeartbeats 3200000 in
theorem set_core {xv : Value} {n : Nat} {Q : Value → Shared → Prop} (val : Nat → Str) (hinit : ∀ (led : Bool) (QQ : PySem.Fin → Shared → Prop) (EE : Value → Shared → Prop), (∀ h' tk, h'.SetOf (PySem.strKind prog w) s.heap.objs.size (fun x => decide (x ∈ met val n)) (met val n).length → (∀ b o, s.heap.get? b = some o → h'.get? b = some o) → QQ (.done (.ret .none)) { s with heap := h', toks := tk }) → wpAny (model prog w) A.in1.in1 (Builtin.«set.__init__» ⟨[.ref s.heap.objs.size, xv], []⟩) QQ EE { s with heap := s.heap.push { cls := .type "set", dict := none, data := .set #[] 0 (.fresh 0 0 led) } })
    (h : ∀ h' tk, h'.SetOf (PySem.strKind prog w) s.heap.objs.size (fun x => decide (x ∈ met val n)) (met val n).length → (∀ b o, s.heap.get? b = some o → h'.get? b = some o) → Q (.ref s.heap.objs.size) { s with heap := h', toks := tk }) :
    wpAny (model prog w) A (call (.type "set") [xv]) Q E s := by
  obtain ⟨c, tl, hmro⟩ := F.called_set.mro
  have hmade := F.called_set.made
  have hsub := F.called_set.sub
  refine wpAny_call (codeAny_of_tree ?_)
  show wpAny _ _ (callAny (.type "set") _) _ _ _
  refine wpAny_pure ⟨Code.quiet_builtin _ (by decide +kernel), codeAny_builtin F.entry_type_call ?_⟩
  rw [Around.under_plain (weight_type_call_type "set" [xv] []) rfl]
  have h1 := F.called_set.notType
  have h2 := F.called_set.canCreate
  have hct := F.typeCall_set_1 xv
  repeat (any_goals (first | assumption | wp_step))
  refine codeAny_mono (code_set_new_1 xv (E := E) (Q₁ := fun obj s₁ => ∃ led : Bool, obj = .ref s.heap.objs.size ∧ s₁ = { s with heap := s.heap.push { cls := .type "set", dict := none, data := .set #[] 0 (.fresh 0 0 led) } }) fun led => ⟨led, rfl, rfl⟩) fun r s₁ hr => ?_
  cases r with
  | error e => exact hr
  | ok fl =>
    cases fl with
    | ret obj =>
      obtain ⟨led, rfl, rfl⟩ := hr
      have hS : (s.heap.push { cls := .type "set", dict := none, data := .set #[] 0 (.fresh 0 0 led) }).get? s.heap.objs.size = some { cls := .type "set", dict := none, data := .set #[] 0 (.fresh 0 0 led) } := Heap.get?_push_size _ rfl
      have hT : Shared.TypeIs { s with heap := s.heap.push { cls := .type "set", dict := none, data := .set #[] 0 (.fresh 0 0 led) } } (.ref s.heap.objs.size) "set" := ⟨_, hS, rfl⟩
      have hli := F.called_set.init.lookup
      have hbi := F.called_set.init.bind (.ref s.heap.objs.size)
      repeat (any_goals (first | assumption | wp_step))
      refine codeAny_mono (codeAny_call_builtin (R := wants (fun r s₂ => r = .none ∧ ∃ h' tk, s₂ = { s with heap := h', toks := tk } ∧
          h'.SetOf (PySem.strKind prog w) s.heap.objs.size (fun x => decide (x ∈ met val n)) (met val n).length ∧ (∀ b o, s.heap.get? b = some o → h'.get? b = some o)) E) F.called_set.init.plain F.entry_set_init (check_set_init_1 hT ?_)) fun r₂ s₂ hr₂ => ?_
      · exact hinit led _ _ fun h' tk hS' hk' => ⟨rfl, h', tk, rfl, hS', hk'⟩
      · cases r₂ with
        | error e => exact hr₂
        | ok fl₂ =>
          cases fl₂ with
          | ret r =>
            obtain ⟨rfl, h', tk, rfl, hS', hk'⟩ := hr₂
            repeat (any_goals (first | assumption | wp_step))
            exact h _ _ hS' hk'
          | _ => exact hr₂.elim
    | _ => exact hr.elim
set_option maxHeartbeats 3200000 in
theorem set_list {l : Addr} {items : Array Value} (hl : s.heap.IsList l items) {n : Nat} {P : Nat → Value → Prop} {kp : List (Addr × Obj)} {Q : Value → Shared → Prop} (val : Nat → Str) (hval : ∀ i v, P i v → ∃ t, v = .str (val i) t) (hn : n + 1 < scanBound) (hkp : ∀ p ∈ kp, p.1 < s.heap.objs.size)
    (hsrc : ∀ led : Bool, SrcAt2 prog w A.in1.in1 A.in1.in1.in1 (.ref l) { s with heap := s.heap.push { cls := .type "set", dict := none, data := .set #[] 0 (.fresh 0 0 led) } } kp n P)
    (h : ∀ h' tk, h'.SetOf (PySem.strKind prog w) s.heap.objs.size (fun x => decide (x ∈ met val n)) (met val n).length → (∀ b o, s.heap.get? b = some o → h'.get? b = some o) → Q (.ref s.heap.objs.size) { s with heap := h', toks := tk }) :
    wpAny (model prog w) A (call (.type "set") [.ref l]) Q E s := by
  refine set_core val (fun led QQ EE hQ => ?_) h
  have hS : (s.heap.push { cls := .type "set", dict := none, data := .set #[] 0 (.fresh 0 0 led) }).get? s.heap.objs.size = some { cls := .type "set", dict := none, data := .set #[] 0 (.fresh 0 0 led) } := Heap.get?_push_size _ rfl
  have hT : Shared.TypeIs { s with heap := s.heap.push { cls := .type "set", dict := none, data := .set #[] 0 (.fresh 0 0 led) } } (.ref s.heap.objs.size) "set" := ⟨_, hS, rfl⟩
  obtain ⟨ol, hol, hcl, nl, hdl⟩ := hl
  obtain ⟨ocls, odict, odata, oslots⟩ := ol
  simp only at hcl hdl
  subst hcl; subst hdl
  have hol' : (s.heap.push { cls := .type "set", dict := none, data := .set #[] 0 (.fresh 0 0 led) }).get? l = some { cls := .type "list", dict := odict, data := .seq items nl, slots := oslots } := Heap.get?_push_of_some _ hol
  have hsls := F.sub_list_set
  have hslf := F.sub_list_frozenset
  have hne : (Value.type "list" == Value.type "dict") = false := by decide
  unfold Builtin.«set.__init__» noKeywords Builtin.Frozenset.updateFrom
  generalize hPI : pyIter = PI
  wp_walk
  subst hPI
  have hsr := hsrc led
  refine hsr _ _ fun o fp St hfp W hSt hst => ?_
  refine wpAny_bind (wpAny_runValue ?_)
  have hDf : s.heap.objs.size ∉ fp := fun hm => by
    by_cases e : s.heap.objs.size = (s.heap.push { cls := .type "set", dict := none, data := .set #[] 0 (.fresh 0 0 led) }).objs.size
    · rw [Heap.size_push] at e
      exact absurd e (Nat.ne_of_lt (Nat.lt_succ_self _))
    · obtain ⟨p, hp, e2⟩ := hfp _ hm e
      exact absurd (hkp p hp) (by rw [e2]; exact Nat.lt_irrefl _)
  refine upd_loop W s.heap.objs.size hDf val hval hn n 0 _ (Nat.zero_add _) hst ?_ fun h' tk hk hs' => ?_
  · have hget : ((s.heap.push { cls := .type "set", dict := none, data := .set #[] 0 (.fresh 0 0 led) }).push o).get? s.heap.objs.size = some { cls := .type "set", dict := none, data := .set #[] 0 (.fresh 0 0 led) } := Heap.get?_push_of_some _ hS
    exact SetOf_congr ((setObjOf_fresh (knd := PySem.strKind prog w) led).setOf hget (by unfold scanBound; omega)) (fun _ => rfl) rfl
  · show wpAny _ _ _ _ _ _
    refine wpAny_pure ?_
    show wpAny _ _ (ret Value.none) _ _ _
    refine wpAny_pure (hQ h' tk hs' fun b o' e => ?_)
    have hb := Heap.lt_size e
    exact hk b o' (Nat.ne_of_lt hb) (by rw [Heap.size_push]; exact Nat.ne_of_lt (Nat.lt_succ_of_lt hb)) (Heap.get?_push_of_some _ (Heap.get?_push_of_some _ e))
end

theorem sub_str_set : isSubtype (.type "str") (.type "set") = pure false := by rw [isSubtype_type]; kernel_rfl
theorem sub_str_frozenset : isSubtype (.type "str") (.type "frozenset") = pure false := by rw [isSubtype_type]; kernel_rfl

section
variable {prog : Program} {w : World} {A : Around} {E : Value → Shared → Prop} {s : Shared}
set_option maxHeartbeats 3200000 in
theorem set_str {x : Str} {xt : Tok} {n : Nat} {P : Nat → Value → Prop} {kp : List (Addr × Obj)} {Q : Value → Shared → Prop} (val : Nat → Str) (hval : ∀ i v, P i v → ∃ t, v = .str (val i) t) (hn : n + 1 < scanBound) (hkp : ∀ p ∈ kp, p.1 < s.heap.objs.size)
    (hsrc : ∀ led : Bool, SrcAt2 prog w A.in1.in1 A.in1.in1.in1 (.str x xt) { s with heap := s.heap.push { cls := .type "set", dict := none, data := .set #[] 0 (.fresh 0 0 led) } } kp n P)
    (h : ∀ h' tk, h'.SetOf (PySem.strKind prog w) s.heap.objs.size (fun x => decide (x ∈ met val n)) (met val n).length → (∀ b o, s.heap.get? b = some o → h'.get? b = some o) → Q (.ref s.heap.objs.size) { s with heap := h', toks := tk }) :
    wpAny (model prog w) A (call (.type "set") [.str x xt]) Q E s := by
  refine set_core val (fun led QQ EE hQ => ?_) h
  have hS : (s.heap.push { cls := .type "set", dict := none, data := .set #[] 0 (.fresh 0 0 led) }).get? s.heap.objs.size = some { cls := .type "set", dict := none, data := .set #[] 0 (.fresh 0 0 led) } := Heap.get?_push_size _ rfl
  have hT : Shared.TypeIs { s with heap := s.heap.push { cls := .type "set", dict := none, data := .set #[] 0 (.fresh 0 0 led) } } (.ref s.heap.objs.size) "set" := ⟨_, hS, rfl⟩
  have hsls := sub_str_set
  have hslf := sub_str_frozenset
  have hne : (Value.type "str" == Value.type "dict") = false := by decide
  unfold Builtin.«set.__init__» noKeywords Builtin.Frozenset.updateFrom
  generalize hPI : pyIter = PI
  wp_walk
  subst hPI
  have hsr := hsrc led
  refine hsr _ _ fun o fp St hfp W hSt hst => ?_
  refine wpAny_bind (wpAny_runValue ?_)
  have hDf : s.heap.objs.size ∉ fp := fun hm => by
    by_cases e : s.heap.objs.size = (s.heap.push { cls := .type "set", dict := none, data := .set #[] 0 (.fresh 0 0 led) }).objs.size
    · rw [Heap.size_push] at e
      exact absurd e (Nat.ne_of_lt (Nat.lt_succ_self _))
    · obtain ⟨p, hp, e2⟩ := hfp _ hm e
      exact absurd (hkp p hp) (by rw [e2]; exact Nat.lt_irrefl _)
  refine upd_loop W s.heap.objs.size hDf val hval hn n 0 _ (Nat.zero_add _) hst ?_ fun h' tk hk hs' => ?_
  · have hget : ((s.heap.push { cls := .type "set", dict := none, data := .set #[] 0 (.fresh 0 0 led) }).push o).get? s.heap.objs.size = some { cls := .type "set", dict := none, data := .set #[] 0 (.fresh 0 0 led) } := Heap.get?_push_of_some _ hS
    exact SetOf_congr ((setObjOf_fresh (knd := PySem.strKind prog w) led).setOf hget (by unfold scanBound; omega)) (fun _ => rfl) rfl
  · show wpAny _ _ _ _ _ _
    refine wpAny_pure ?_
    show wpAny _ _ (ret Value.none) _ _ _
    refine wpAny_pure (hQ h' tk hs' fun b o' e => ?_)
    have hb := Heap.lt_size e
    exact hk b o' (Nat.ne_of_lt hb) (by rw [Heap.size_push]; exact Nat.ne_of_lt (Nat.lt_succ_of_lt hb)) (Heap.get?_push_of_some _ (Heap.get?_push_of_some _ e))
end
end Mine
end
section
open PySem PySem.W PySem.Calls PyProof.Rows PySem.Spec
namespace Mine
section
variable {prog : Program} {w : World} {A : Around} {E : Value → Shared → Prop} {s : Shared} {h₀ : Heap} {L : Addr} {m : Str → Option Value} {news : List (Addr × Obj)}
theorem set_N {h' : Heap} {tk : Nat} {x : Str → Bool} {n : Nat} {Q : Value → Shared → Prop} (F : Fr h₀ L s.heap m) (N : News h₀ L s.heap news) (hs : h'.SetOf (PySem.strKind prog w) s.heap.objs.size x n) (hk : ∀ b o, s.heap.get? b = some o → h'.get? b = some o)
   (h : ∀ h' tk o, Fr h₀ L h' m → News h₀ L h' ((s.heap.objs.size, o) :: news) → o.SetObjOf (PySem.strKind prog w) x n → Q (.ref s.heap.objs.size) { s with heap := h', toks := tk }) : Q (.ref s.heap.objs.size) { s with heap := h', toks := tk } := by
  obtain ⟨o, ho, hso⟩ := hs.objOf
  refine h h' tk o (F.keeps hk) (fun p hp => ?_) hso
  rcases List.mem_cons.mp hp with rfl | hp
  · exact ⟨ho, fun e => absurd F.ns.lt (by rw [← e]; exact Nat.lt_irrefl _), next_is_new F⟩
  · exact ⟨hk _ _ (N p hp).1, (N p hp).2⟩
theorem set_list_N {l : Addr} {vs : List Value} {ss : List Str} {ep : Nat} {Q : Value → Shared → Prop} (hh : A.handled = none) (F : Fr h₀ L s.heap m) (N : News h₀ L s.heap news) (hm : (l, W.listOf vs.toArray ep) ∈ news) (hS : StrsAre vs ss) (hl : vs.length < 1000)
   (h : ∀ h' tk o, Fr h₀ L h' m → News h₀ L h' ((s.heap.objs.size, o) :: news) → o.SetObjOf (PySem.strKind prog w) (fun x => decide (x ∈ met (fun i => ss.getD i default) vs.length)) (met (fun i => ss.getD i default) vs.length).length → Q (.ref s.heap.objs.size) { s with heap := h', toks := tk }) :
    wpAny (model prog w) A (call (.type "set") [.ref l]) Q E s := by
  have hls := News_isList N hm
  refine set_list hls (P := fun i v => vs[i]? = some v) (n := vs.length) (kp := [(l, W.listOf vs.toArray ep)]) (fun i => ss.getD i default) (fun i v hv => ?_) (by unfold scanBound; omega) (fun p hp => ?_) (fun led => SrcAt2.list (by simp [hh]) (hls.push _)) fun h' tk hs hk => set_N F N hs hk h
  · obtain ⟨x, t, hx, rfl⟩ := Mine.StrsAre.getAt hS hv
    exact ⟨t, by rw [List.getD, hx]; rfl⟩
  · rw [List.mem_singleton.mp hp]
    exact Heap.lt_size (N _ hm).1
theorem set_str_N {x : Str} {t : Tok} {val : Nat → Str} {Q : Value → Shared → Prop} (hh : A.handled = none) (F : Fr h₀ L s.heap m) (N : News h₀ L s.heap news) (hv : ∀ i v, SignAt x i v → ∃ t, v = .str (val i) t) (hl : x.cps.size < 1000)
   (h : ∀ h' tk o, Fr h₀ L h' m → News h₀ L h' ((s.heap.objs.size, o) :: news) → o.SetObjOf (PySem.strKind prog w) (fun y => decide (y ∈ met val x.cps.size)) (met val x.cps.size).length → Q (.ref s.heap.objs.size) { s with heap := h', toks := tk }) :
    wpAny (model prog w) A (call (.type "set") [.str x t]) Q E s :=
  set_str (P := SignAt x) (n := x.cps.size) (kp := []) val hv (by unfold scanBound; omega) (fun p hp => nomatch hp) (fun led => SrcAt2.str (by simp [hh])) fun h' tk hs hk => set_N F N hs hk h
theorem set_len {D : Addr} {o : Obj} {x : Str → Bool} {n : Nat} {Q : Value → Shared → Prop} (N : News h₀ L s.heap news) (hm : (D, o) ∈ news) (ho : o.SetObjOf (PySem.strKind prog w) x n) (hn : n < 1000) (h : Q (.int n (s.toks + 1)) { s with toks := s.toks + 1 + 1 }) :
    wpAny (model prog w) A (call (.builtin "len") [.ref D]) Q E s := by
  obtain ⟨hex, es, ep, t, hd, _, _, hn', hf⟩ := ho
  subst hn'
  exact call_len_set (N _ hm).1 hex hd hf (by omega) h
end
/-- how many heads there are -/
noncomputable def cnt (hd : _root_.Fin 4 → _root_.Fin 4) : Nat := (met (fun i => ([0, 1, 2, 3].map fun j => ltr false (hd j)).getD i default) 4).length
end Mine
end
section
open PySem PySem.W PySem.Calls PyProof.Rows PySem.Spec
namespace Mine
theorem shaped_strs (ss : List Str) (h : ss.all PyData.strOk = true) : SeqAt.shaped (.list (ss.map PyData.str)) = true := by
  simp [SeqAt.shaped, PyData.canLay0, PyData.depth, canLayAll_strs', depthAll_strs']
  simpa using h
theorem sameAll_strs : ∀ ns ms : List Str, PySem.Spec.sameAll (ns.map PyData.str) (ms.map PyData.str) = decide (ns = ms)
  | [], [] => by simp [PySem.Spec.sameAll]
  | [], _ :: _ => by simp [PySem.Spec.sameAll]
  | _ :: _, [] => by simp [PySem.Spec.sameAll]
  | a :: r, b :: t => by
    simp only [List.map_cons, PySem.Spec.sameAll, PySem.Spec.same, sameAll_strs r t]
    by_cases h : a = b <;> by_cases h' : r = t <;> simp [h, h']
theorem carried_strs : ∀ {vs : List Value} {ns : List Str}, StrsAre vs ns → CarriedAll vs (ns.map PyData.str)
  | _, _, .nil => .nil
  | _, _, .cons _ t r => .cons (.str _ t) (carried_strs r)
section
variable {prog : Program} {w : World} {A : Around} {E : Value → Shared → Prop} {s : Shared} {a b : Addr} {xs ys : List Value} {ns ms : List Str} {Q : Value → Shared → Prop}
theorem ne_strs (ha : s.heap.IsList a xs.toArray) (hb : s.heap.IsList b ys.toArray) (hi : StrsAre xs ns) (hj : StrsAre ys ms) (o1 : ns.all PyData.strOk = true) (o2 : ms.all PyData.strOk = true) (hu : A.units + 64 < cLine) (h : Q (.bool (!decide (ns = ms))) s) :
    wpAny (model prog w) A (compareOp .NotEq (.ref a) (.ref b)) Q E s :=
  ne_dataH_same (reads_newData ha (carried_strs hi)) (reads_newData hb (carried_strs hj)) (shaped_strs _ o1) (shaped_strs _ o2) hu (SeqAt.noMix_of_shape (.list .str) rfl _ _ (list_map_has fun _ => rfl) (list_map_has fun _ => rfl)) (by
    have e : PySem.Spec.same (.list (ns.map PyData.str)) (.list (ms.map PyData.str)) = decide (ns = ms) := by
      simp only [PySem.Spec.same]; exact sameAll_strs ns ms
    rw [e]; exact h)
end
theorem rowS_ok : ∀ k < 8, ∀ p, PyData.strOk (rowS k p) = true := by decide +kernel
theorem rows_ok (k : Nat) (hk : k < 8) (ps : List (_root_.Fin 6)) : (ps.map (rowS k)).all PyData.strOk = true := by
  rw [List.all_map, List.all_eq_true]
  exact fun p _ => rowS_ok k hk p
/-- the line ends -/
noncomputable def endL : Nat → List Nat
  | 0 => [10]
  | 1 => [13]
  | _ => [13, 10]
noncomputable def endS (r : Nat) : Str := ⟨(endL r).toArray⟩
theorem endL_is (r : Nat) : endL r = [10] ∨ endL r = [13] ∨ endL r = [13, 10] := by
  match r with
  | 0 => exact .inl rfl
  | 1 => exact .inr (.inl rfl)
  | n + 2 => exact .inr (.inr rfl)
theorem end_lits : Str.ofString "\n" = endS 0 ∧ Str.ofString "\r" = endS 1 ∧ Str.ofString "\r\n" = endS 2 := by decide +kernel
theorem crlf_lit : Str.ofString "\r\n" = crlf := by decide +kernel
theorem pairL_ok (p : _root_.Fin 6) : ∀ c ∈ pairL p, c ≠ 10 ∧ c ≠ 13 := by
  intro c hc
  simp only [pairL, List.mem_cons, List.not_mem_nil, or_false, codeL] at hc
  rcases hc with rfl | rfl <;> omega
theorem rowL_ok (k : Nat) (p : _root_.Fin 6) : ∀ c ∈ rowL k p, c ≠ 10 ∧ c ≠ 13 := by
  intro c hc
  rw [rowL, List.mem_append] at hc
  rcases hc with hc | hc
  · rw [List.eq_of_mem_replicate hc]; decide
  · exact pairL_ok p c hc
theorem rowL_succ (k : Nat) (p : _root_.Fin 6) : rowL (k + 1) p = 46 :: rowL k p := by simp [rowL, List.replicate_succ]
theorem rowL_len (k : Nat) (p : _root_.Fin 6) : (rowL k p).length = k + 2 := by simp [rowL, pairL]
theorem joinT_len (e : List Nat) (k : Nat) : ∀ (ps : List (_root_.Fin 6)) (p : _root_.Fin 6), (joinT e (rowL k p) (ps.map (rowL k))).length = (k + 2) + ps.length * (k + 2 + e.length)
  | [], p => by simp [joinT, rowL_len]
  | q :: ps, p => by
    simp only [List.map_cons, joinT, List.length_append, joinT_len e k ps q, rowL_len, List.length_cons]
    rw [Nat.add_mul]
    omega
theorem joinT_rows (e : List Nat) (k : Nat) (ps : List (_root_.Fin 6)) (p : _root_.Fin 6) : joinT e (rowL (k + 1) p) (ps.map (rowL (k + 1))) = joinT e (46 :: rowL k p) ((ps.map (rowL k)).map fun t => 46 :: t) := by
  rw [rowL_succ, List.map_map]
  congr 1
theorem joinT_rows2 (e : List Nat) (k : Nat) (ps : List (_root_.Fin 6)) (p : _root_.Fin 6) : joinT e (rowL (k + 2) p) (ps.map (rowL (k + 2))) = joinT e (46 :: 46 :: rowL k p) ((ps.map (rowL k)).map fun t => 46 :: 46 :: t) := by
  rw [rowL_succ, rowL_succ, List.map_map]
  congr 1
theorem join_rows (e : List Nat) (k : Nat) (ps : List (_root_.Fin 6)) (p : _root_.Fin 6) : Txt.join ⟨e.toArray⟩ ((p :: ps).map (rowS k)) = ⟨(joinT e (rowL k p) (ps.map (rowL k))).toArray⟩ := by
  apply str_ext
  rw [← glue_rows, List.map_map]
  rfl
theorem split_rows (k : Nat) (ps : List (_root_.Fin 6)) (p : _root_.Fin 6) : Txt.split ⟨(joinT [13, 10] (rowL k p) (ps.map (rowL k))).toArray⟩ crlf = (p :: ps).map (rowS k) := by
  rw [split_ok (rowL k p) (ps.map (rowL k)) (fun c h => (rowL_ok k p c h).2) (fun t ht c h => by
    obtain ⟨q, _, rfl⟩ := List.mem_map.mp ht
    exact (rowL_ok k q c h).2) rfl, List.map_map]
  rfl
end Mine
end
section
open PySem PySem.W PySem.Calls PyProof.Rows
namespace Mine
theorem fillB6 : (PySem.Challenge.rw_ty0055_01, Mine.hd.heap_1) = (PySem.Challenge.rw_ty0055_01, Mine.hd.heap_1) := by
  k_fill
  rfl

local macro_rules | `(tactic| walk_at "subscriptTail Name UnaryOp str int") => `(tactic| ((with_reducible show wpAny _ _ (subscriptTail _ _ (Value.str (rowS _ _) _) (Value.int (-2) _)) _ _ _); refine row_item2 (by assumption) ?_; (try dsimp only)))
local macro_rules | `(tactic| walk_at "subscriptTail Name UnaryOp str int") => `(tactic| ((with_reducible show wpAny _ _ (subscriptTail _ _ (Value.str (rowS _ _) _) (Value.int (-1) _)) _ _ _); refine row_item1 (by assumption) ?_; (try dsimp only)))
local macro_rules | `(tactic| walk_at "call builtin:str.index") => `(tactic| (refine call_index rfl ?_; (try dsimp only)))
local macro_rules | `(tactic| walk_at "subscriptTail") => `(tactic| ((with_reducible show wpAny _ _ (subscriptTail _ _ (Value.ref _) (Value.int (Nat.cast (Fin.val _)) _)) _ _ _); (rename News _ _ _ _ => Nz); refine heads_item Nz (by repeat first | exact List.Mem.head _ | refine List.Mem.tail _ ?_) ?_; (try dsimp only)))
noncomputable def same (hd : _root_.Fin 4 → _root_.Fin 4) (p : _root_.Fin 6) : Bool := hd (fstP p) == hd (sndP p)
set_option maxRecDepth 100000 in
set_option maxHeartbeats 0 in
set_option pp.maxSteps 100000 in
theorem rows_loop {mean : ExcName → Option Value} {loose : List Str} {mg mb : Str → Option Value} (w : World) (h₀ : Heap) (fa : Addr) (cdv : Value) (m : Str → Option Value) (s : Shared) (Q : Flow → Shared → Prop) (E : Value → Shared → Prop)
   (KX : (KG w.params).In h₀) (T : Top VG loose mean mg mb h₀) (K0 : Below callerA h₀ [] h₀) (hE : PassesOwn (model PG w) (callerA.deeper (lawEnv h₀.objs.size fa cdv)) (lawEnv h₀.objs.size fa cdv) E)
   (o1 o2 o3 o4 o5 : Obj) (hdl al wl hol : Addr) (hd : _root_.Fin 4 → _root_.Fin 4) (hv av : List Value) (he ae we oe : Nat) (ps : List (_root_.Fin 6)) (hs : List Str) (k : Nat) (hk : k < 8) (tu : _root_.Fin 4 → Tok) (rest : List (Addr × Obj))
   (ho3 : o3.data = .cell (some (.ref hol))) (hA : StrsAre av (ps.map (rowS k))) (hH : StrsAre hv hs) (hpl : ps.length ≤ 6) (hhl : hs.length ≤ 6)
   (dw : ∀ p ∈ (hol, W.listOf hv.toArray oe) :: (al, W.listOf av.toArray ae) :: (hdl, W.listOf (headsV hd tu).toArray he) :: (h₀.objs.size + 1 + 1 + 1 + 1 + 1, o5) :: (h₀.objs.size + 1 + 1 + 1 + 1, o4) :: (h₀.objs.size + 1 + 1 + 1, o3) :: (h₀.objs.size + 1 + 1, o2) :: (h₀.objs.size + 1, o1) :: rest, p.1 ≠ wl) (dh : ∀ p ∈ (wl, W.listOf ([] : List Value).toArray we) :: (al, W.listOf av.toArray ae) :: (hdl, W.listOf (headsV hd tu).toArray he) :: (h₀.objs.size + 1 + 1 + 1 + 1 + 1, o5) :: (h₀.objs.size + 1 + 1 + 1 + 1, o4) :: (h₀.objs.size + 1 + 1 + 1, o3) :: (h₀.objs.size + 1 + 1, o2) :: (h₀.objs.size + 1, o1) :: rest, p.1 ≠ hol)
    (e_heads : m (Str.ofString "heads") = some (.ref hdl)) (e_apart : m (Str.ofString "apart") = some (.ref al)) (e_waiting : m (Str.ofString "waiting") = some (.ref wl))
   (F : Fr h₀ h₀.objs.size s.heap m)
   (N : News h₀ h₀.objs.size s.heap ((wl, W.listOf ([] : List Value).toArray we) :: (hol, W.listOf (hv).toArray oe) :: (al, W.listOf av.toArray ae) :: (hdl, W.listOf (headsV hd tu).toArray he) :: (h₀.objs.size + 1 + 1 + 1 + 1 + 1, o5) :: (h₀.objs.size + 1 + 1 + 1 + 1, o4) :: (h₀.objs.size + 1 + 1 + 1, o3) :: (h₀.objs.size + 1 + 1, o2) :: (h₀.objs.size + 1, o1) :: rest))
   (done : ∀ h' tk m' wv we hv' oe', (StrsAre hv' (hs ++ ((ps.take ps.length).filter (same hd)).map (rowS k))) → (StrsAre wv (((ps.take ps.length).filter fun p => !same hd p).map (rowS k))) → (∀ y, y ≠ Str.ofString "row" → m' y = m y) → Fr h₀ h₀.objs.size h' m' → News h₀ h₀.objs.size h' ((wl, W.listOf (wv).toArray we) :: (hol, W.listOf (hv').toArray oe') :: (al, W.listOf av.toArray ae) :: (hdl, W.listOf (headsV hd tu).toArray he) :: (h₀.objs.size + 1 + 1 + 1 + 1 + 1, o5) :: (h₀.objs.size + 1 + 1 + 1 + 1, o4) :: (h₀.objs.size + 1 + 1 + 1, o3) :: (h₀.objs.size + 1 + 1, o2) :: (h₀.objs.size + 1, o1) :: rest) → Q .next { s with heap := h', toks := tk }) :
   wpAny (model PG w) (callerA.deeper (lawEnv h₀.objs.size fa cdv)) (execs ([lvAt 6]) (lawEnv h₀.objs.size fa cdv)) Q E s := by
  w_on
  replace F := Fr_knows F [((Str.ofString "heads"), .ref hdl), ((Str.ofString "apart"), .ref al), ((Str.ofString "waiting"), .ref wl)] (kn1 e_heads (kn1 e_apart (kn1 e_waiting kn0)))
  dsimp only [know] at F
  dsimp only [lawEnv, PG, KG, VG, S] at *
  conv in (occs := *) lawScope => all_goals whnf
  conv in (lvAt _) => whnf
  k_steps
  refine go ?_
  refine For_src F (by intro _; with_unfolding_all rfl) hE ?_
  k_steps
  refine SrcLoop.mk [(al, W.listOf av.toArray ae)] (av.length) _ _ _ (fun i m₁ nw => ∃ wv we hv' oe', nw = (wl, W.listOf (wv).toArray we) :: (hol, W.listOf (hv').toArray oe') :: (al, W.listOf av.toArray ae) :: (hdl, W.listOf (headsV hd tu).toArray he) :: (h₀.objs.size + 1 + 1 + 1 + 1 + 1, o5) :: (h₀.objs.size + 1 + 1 + 1 + 1, o4) :: (h₀.objs.size + 1 + 1 + 1, o3) :: (h₀.objs.size + 1 + 1, o2) :: (h₀.objs.size + 1, o1) :: rest ∧ StrsAre hv' (hs ++ ((ps.take i).filter (same hd)).map (rowS k)) ∧ StrsAre wv (((ps.take i).filter fun p => !same hd p).map (rowS k)) ∧ ∀ y, y ≠ Str.ofString "row" → m₁ y = m y) (SrcAt.list (by rfl) N (by simp)) ?_ F N ⟨[], we, hv, oe, rfl, by simpa using hH, .nil, fun y hy => ?_⟩ ?_ ?_
  · rintro i m₁ nw ⟨wv, we', hv', oe', rfl, _⟩ p hp
    rw [List.mem_singleton] at hp
    subst hp
    simp
  · try dsimp only
    refine know_if e_heads ?_
    refine know_if e_apart ?_
    exact know_if e_waiting rfl
  · clear F N
    rintro i v m₁ nw h tk I o hi hvi ⟨wv, we', hv', oe', rfl, hH', hW', hm⟩ hI F N
    obtain ⟨x, t, hx, rfl⟩ := Mine.StrsAre.getAt hA hvi
    rw [List.getElem?_map] at hx
    obtain ⟨p, hp, rfl⟩ := Option.map_eq_some_iff.mp hx
    have ew : m₁ (Str.ofString "waiting") = some (.ref wl) := (hm _ (by decide)).trans e_waiting
    have eh : m₁ (Str.ofString "heads") = some (.ref hdl) := (hm _ (by decide)).trans e_heads
    change Fr h₀ h₀.objs.size h m₁ at F
    change News h₀ h₀.objs.size h _ at N
    replace F := Fr_knows F [(Str.ofString "heads", .ref hdl), (Str.ofString "waiting", .ref wl)] (kn1 eh (kn1 ew kn0))
    dsimp only [know] at F
    have hlw : wv.length ≤ 6 := by
      rw [Mine.StrsAre.len hW', List.length_map]
      exact Nat.le_trans (List.length_filter_le _ _) (by rw [List.length_take]; omega)
    have hlh : hv'.length ≤ 12 := by
      rw [Mine.StrsAre.len hH', List.length_append, List.length_map]
      have := List.length_filter_le (same hd) (ps.take i)
      rw [List.length_take] at this
      omega
    k_steps
    · have hq : (ltr false (hd (fstP p)) == ltr false (hd (sndP p))) = true := by assumption
      have hq : same hd p = true := by rw [same, beq_iff_eq]; exact ltr_eq.mp (eq_of_beq hq)
      refine go ?_
      rename Fr _ _ _ _ => F4
      rename News _ _ _ _ => N4
      have N5 := News_sub N4 (news' := (hol, W.listOf hv'.toArray oe') :: (I, o) :: (wl, W.listOf wv.toArray we') :: (al, W.listOf av.toArray ae) :: (hdl, W.listOf (headsV hd tu).toArray he) :: (h₀.objs.size + 1 + 1 + 1 + 1 + 1, o5) :: (h₀.objs.size + 1 + 1 + 1 + 1, o4) :: (h₀.objs.size + 1 + 1 + 1, o3) :: (h₀.objs.size + 1 + 1, o2) :: (h₀.objs.size + 1, o1) :: rest) (by
        (repeat with_reducible refine List.forall_mem_cons.mpr ⟨(by (repeat first | with_reducible assumption | with_reducible exact List.mem_cons_self | with_reducible refine List.mem_cons_of_mem _ ?_ | with_reducible exact List.mem_append_left _ (by assumption) | with_reducible refine List.mem_append_right _ ?_)), ?_⟩); first | exact fun _ hq => absurd hq List.not_mem_nil | (intro q hq; (repeat first | with_reducible assumption | with_reducible exact List.mem_cons_self | with_reducible refine List.mem_cons_of_mem _ ?_ | with_reducible exact List.mem_append_left _ (by assumption) | with_reducible refine List.mem_append_right _ ?_); done) | (intro q hq; rcases List.mem_append.mp hq with hq | hq <;> (repeat first | with_reducible assumption | with_reducible exact List.mem_cons_self | with_reducible refine List.mem_cons_of_mem _ ?_ | with_reducible exact List.mem_append_left _ (by assumption) | with_reducible refine List.mem_append_right _ ?_)))
      refine append_led F4 N5 ?_ (by omega) ?_
      · intro q hq
        rcases List.mem_cons.mp hq with rfl | hq
        · exact fun e => hI _ (.tail _ (.head _)) e.symm
        · rcases List.mem_cons.mp hq with rfl | hq
          · exact dh (wl, W.listOf ([] : List Value).toArray we) (.head _)
          · exact dh q (.tail _ hq)
      intro h5 F5 N6
      clear F4 N4 N5
      k_steps
      rename Fr _ _ _ _ => F4
      rename News _ _ _ _ => N4
      refine TurnU.intro F4 (nw := (wl, W.listOf (wv).toArray we') :: (hol, W.listOf (hv' ++ [Value.str (rowS k p) t]).toArray (oe' + 1)) :: (al, W.listOf av.toArray ae) :: (hdl, W.listOf (headsV hd tu).toArray he) :: (h₀.objs.size + 1 + 1 + 1 + 1 + 1, o5) :: (h₀.objs.size + 1 + 1 + 1 + 1, o4) :: (h₀.objs.size + 1 + 1 + 1, o3) :: (h₀.objs.size + 1 + 1, o2) :: (h₀.objs.size + 1, o1) :: rest) (News_sub N4 (by
        (repeat with_reducible refine List.forall_mem_cons.mpr ⟨(by (repeat first | with_reducible assumption | with_reducible exact List.mem_cons_self | with_reducible refine List.mem_cons_of_mem _ ?_ | with_reducible exact List.mem_append_left _ (by assumption) | with_reducible refine List.mem_append_right _ ?_)), ?_⟩); first | exact fun _ hq => absurd hq List.not_mem_nil | (intro q hq; (repeat first | with_reducible assumption | with_reducible exact List.mem_cons_self | with_reducible refine List.mem_cons_of_mem _ ?_ | with_reducible exact List.mem_append_left _ (by assumption) | with_reducible refine List.mem_append_right _ ?_); done) | (intro q hq; rcases List.mem_append.mp hq with hq | hq <;> (repeat first | with_reducible assumption | with_reducible exact List.mem_cons_self | with_reducible refine List.mem_cons_of_mem _ ?_ | with_reducible exact List.mem_append_left _ (by assumption) | with_reducible refine List.mem_append_right _ ?_)))) ?_ ⟨wv, we', hv' ++ [Value.str (rowS k p) t], oe' + 1, rfl, ?_, ?_, fun y hy => ?_⟩
      · intro q hq
        rcases List.mem_cons.mp hq with rfl | hq
        · exact hI _ (.head _)
        · rcases List.mem_cons.mp hq with rfl | hq
          · exact hI (hol, W.listOf hv'.toArray oe') (.tail _ (.head _))
          · exact hI q (.tail _ (.tail _ hq))
      · rw [take_snoc hp, List.filter_append, List.map_append, ← List.append_assoc]
        simpa [hq] using Mine.StrsAre.snoc hH' (rowS k p) t
      · rw [take_snoc hp, List.filter_append, List.map_append]
        simpa [hq] using hW'
      · dsimp only
        rw [if_neg hy]
        exact (know_if eh (know_if ew rfl)).trans (hm y hy)
    · have hq : (ltr false (hd (fstP p)) == ltr false (hd (sndP p))) = false := by assumption
      have hq : same hd p = false := by
        rw [same, beq_eq_false_iff_ne]
        intro e
        rw [e, beq_self_eq_true] at hq
        cases hq
      refine go ?_
      rename Fr _ _ _ _ => F4
      rename News _ _ _ _ => N4
      have N5 := News_sub N4 (news' := (wl, W.listOf wv.toArray we') :: (I, o) :: (hol, W.listOf hv'.toArray oe') :: (al, W.listOf av.toArray ae) :: (hdl, W.listOf (headsV hd tu).toArray he) :: (h₀.objs.size + 1 + 1 + 1 + 1 + 1, o5) :: (h₀.objs.size + 1 + 1 + 1 + 1, o4) :: (h₀.objs.size + 1 + 1 + 1, o3) :: (h₀.objs.size + 1 + 1, o2) :: (h₀.objs.size + 1, o1) :: rest) (by
        (repeat with_reducible refine List.forall_mem_cons.mpr ⟨(by (repeat first | with_reducible assumption | with_reducible exact List.mem_cons_self | with_reducible refine List.mem_cons_of_mem _ ?_ | with_reducible exact List.mem_append_left _ (by assumption) | with_reducible refine List.mem_append_right _ ?_)), ?_⟩); first | exact fun _ hq => absurd hq List.not_mem_nil | (intro q hq; (repeat first | with_reducible assumption | with_reducible exact List.mem_cons_self | with_reducible refine List.mem_cons_of_mem _ ?_ | with_reducible exact List.mem_append_left _ (by assumption) | with_reducible refine List.mem_append_right _ ?_); done) | (intro q hq; rcases List.mem_append.mp hq with hq | hq <;> (repeat first | with_reducible assumption | with_reducible exact List.mem_cons_self | with_reducible refine List.mem_cons_of_mem _ ?_ | with_reducible exact List.mem_append_left _ (by assumption) | with_reducible refine List.mem_append_right _ ?_)))
      refine append_led F4 N5 ?_ (by omega) ?_
      · intro q hq
        rcases List.mem_cons.mp hq with rfl | hq
        · exact fun e => hI _ (.head _) e.symm
        · rcases List.mem_cons.mp hq with rfl | hq
          · exact dw (hol, W.listOf hv.toArray oe) (.head _)
          · exact dw q (.tail _ hq)
      intro h5 F5 N6
      clear F4 N4 N5
      k_steps
      rename Fr _ _ _ _ => F4
      rename News _ _ _ _ => N4
      refine TurnU.intro F4 (nw := (wl, W.listOf (wv ++ [Value.str (rowS k p) t]).toArray (we' + 1)) :: (hol, W.listOf (hv').toArray oe') :: (al, W.listOf av.toArray ae) :: (hdl, W.listOf (headsV hd tu).toArray he) :: (h₀.objs.size + 1 + 1 + 1 + 1 + 1, o5) :: (h₀.objs.size + 1 + 1 + 1 + 1, o4) :: (h₀.objs.size + 1 + 1 + 1, o3) :: (h₀.objs.size + 1 + 1, o2) :: (h₀.objs.size + 1, o1) :: rest) (News_sub N4 (by
        (repeat with_reducible refine List.forall_mem_cons.mpr ⟨(by (repeat first | with_reducible assumption | with_reducible exact List.mem_cons_self | with_reducible refine List.mem_cons_of_mem _ ?_ | with_reducible exact List.mem_append_left _ (by assumption) | with_reducible refine List.mem_append_right _ ?_)), ?_⟩); first | exact fun _ hq => absurd hq List.not_mem_nil | (intro q hq; (repeat first | with_reducible assumption | with_reducible exact List.mem_cons_self | with_reducible refine List.mem_cons_of_mem _ ?_ | with_reducible exact List.mem_append_left _ (by assumption) | with_reducible refine List.mem_append_right _ ?_); done) | (intro q hq; rcases List.mem_append.mp hq with hq | hq <;> (repeat first | with_reducible assumption | with_reducible exact List.mem_cons_self | with_reducible refine List.mem_cons_of_mem _ ?_ | with_reducible exact List.mem_append_left _ (by assumption) | with_reducible refine List.mem_append_right _ ?_)))) ?_ ⟨wv ++ [Value.str (rowS k p) t], we' + 1, hv', oe', rfl, ?_, ?_, fun y hy => ?_⟩
      · intro q hq
        rcases List.mem_cons.mp hq with rfl | hq
        · exact hI (wl, W.listOf wv.toArray we') (.head _)
        · exact hI q (.tail _ hq)
      · rw [take_snoc hp, List.filter_append, List.map_append]
        simpa [hq] using hH'
      · rw [take_snoc hp, List.filter_append, List.map_append]
        simpa [hq] using Mine.StrsAre.snoc hW' (rowS k p) t
      · dsimp only
        rw [if_neg hy]
        exact (know_if eh (know_if ew rfl)).trans (hm y hy)
  · rintro h' tk m' nw F4 N4 hJ
    rw [Mine.StrsAre.len hA, List.length_map] at hJ
    obtain ⟨wv, we, hv', oe', rfl, hp1, hp2, hp3⟩ := hJ
    k_steps
    exact done _ _ _ wv we hv' oe' hp1 hp2 hp3 F4 N4
end Mine
end
section
open PySem PySem.W PySem.Calls PyProof.Rows
namespace Mine
theorem fillB0 : (PySem.Challenge.rw_ty0055_01, Mine.hd.heap_1) = (PySem.Challenge.rw_ty0055_01, Mine.hd.heap_1) := by
  k_fill
  rfl
local macro_rules | `(tactic| walk_at "call ref") => `(tactic| ((with_reducible show wpAny _ _ (call (Value.ref 64) _ _) _ _ _); refine halt ?_))

set_option maxRecDepth 100000 in
set_option maxHeartbeats 0 in
set_option pp.maxSteps 100000 in
theorem upto_step {mean : ExcName → Option Value} {loose : List Str} {mg mb : Str → Option Value} (w : World) (h₀ : Heap) (fa : Addr) (cdv : Value) (m : Str → Option Value) (s : Shared) (Q : Flow → Shared → Prop) (E : Value → Shared → Prop)
   (KX : (KG w.params).In h₀) (T : Top VG loose mean mg mb h₀) (K0 : Below callerA h₀ [] h₀) (hE : PassesOwn (model PG w) (callerA.deeper (lawEnv h₀.objs.size fa cdv)) (lawEnv h₀.objs.size fa cdv) E)
   (o1 o2 o3 o4 o5 : Obj) (ol : Addr) (vs : List Value) (ep : Nat) (es : List (Int × Str)) (x : Int) (tx : Tok) (rest : List (Addr × Obj)) (hlen : es.length ≤ 1000) (R : Mine.Rows rest vs es) (hsort : es.Pairwise (fun a b => a.1 ≤ b.1))
    (e_order : m (Str.ofString "order") = some (.ref ol)) (e_level : m (Str.ofString "level") = some (.int x tx))
   (F : Fr h₀ h₀.objs.size s.heap m)
   (N : News h₀ h₀.objs.size s.heap ((ol, W.listOf vs.toArray ep) :: rest))
   (done : ∀ h' tk m', ((∃ (r : Nat) (t : Tok), m' (Str.ofString "upto") = some (.int r t) ∧ r ≤ es.length ∧ (∀ i (h : i < es.length), i < r → es[i].1 ≤ x) ∧ (∀ i (h : i < es.length), r ≤ i → x < es[i].1))) → ((∀ y, y ≠ Str.ofString "upto" → m' y = m y)) → Fr h₀ h₀.objs.size h' m' → News h₀ h₀.objs.size h' ((ol, W.listOf vs.toArray ep) :: rest) → Q .next { s with heap := h', toks := tk }) :
   wpAny (model PG w) (callerA.deeper (lawEnv h₀.objs.size fa cdv)) (execs ([lvAt 0]) (lawEnv h₀.objs.size fa cdv)) Q E s := by
  w_on
  replace F := Fr_knows F [((Str.ofString "order"), .ref ol), ((Str.ofString "level"), .int x tx)] (kn1 e_order (kn1 e_level kn0))
  dsimp only [know] at F
  dsimp only [lawEnv, PG, KG, VG, S] at *
  conv in (occs := *) lawScope => all_goals whnf
  conv in (lvAt _) => whnf
  k_steps
  refine go ?_
  rename Fr _ _ _ _ => F2
  rename News _ _ _ _ => N2
  refine CallSpec.use (bisR_spec w ol vs ep rest es x tx hlen R hsort) (by assumption) F2 (by assumption) N2 (by assumption) rfl rfl ?_ ?_ ?_
  · ktr_room
  · ktr_units
  rintro v nw h' tk' ⟨⟨r, t, rfl, hr, hlo, hhi⟩, rfl⟩ F3 N3
  clear F2 N2
  k_steps
  rename Fr _ _ _ _ => F4
  rename News _ _ _ _ => N4
  refine done _ _ _ ⟨r, t, ?_, hr, hlo, hhi⟩ (fun y hy => ?_) F4 N4
  · rfl
  · rw [if_neg hy]
    exact know_if e_order (know_if e_level rfl)
end Mine
end
section
open PySem PySem.W PySem.Calls PyProof.Rows
namespace Mine
theorem fillB1 : (PySem.Challenge.rw_ty0055_01, Mine.hd.heap_1) = (PySem.Challenge.rw_ty0055_01, Mine.hd.heap_1) := by
  k_fill
  rfl
local macro_rules | `(tactic| walk_at "call ref") => `(tactic| ((with_reducible show wpAny _ _ (call (Value.ref 247) _ _) _ _ _); refine halt ?_))

local macro_rules | `(tactic| walk_at "exec For Name Subscript cons nil") => `(tactic| ((with_reducible show wpAny _ _ (exec (Stmt.For _ _ _ _ _) _) _ _ _); refine halt ?_))
local macro_rules | `(tactic| walk_at "subscriptTail Name Slice ref ref") => `(tactic| (refine halt ?_))
local macro_rules | `(tactic| walk_at "subscriptTail") => `(tactic| ((with_reducible show wpAny _ _ (subscriptTail _ _ (Value.str (pairS _) _) (Value.int 0 _)) _ _ _); refine pair_item0 ?_; (try dsimp only)))
local macro_rules | `(tactic| walk_at "subscriptTail") => `(tactic| ((with_reducible show wpAny _ _ (subscriptTail _ _ (Value.str (pairS _) _) (Value.int 1 _)) _ _ _); refine pair_item1 ?_; (try dsimp only)))
local macro_rules | `(tactic| walk_at "call builtin:str.upper") => `(tactic| (refine call_upper ?_; (try dsimp only)))
theorem in_cons {α : Type} {a : α} {r l : List α} (h : ∀ p ∈ r, p ∈ l) : ∀ p ∈ a :: r, p ∈ a :: l := fun p hp => (List.mem_cons.mp hp).elim (fun e => List.mem_cons.mpr (.inl e)) (fun e => .tail _ (h p e))
theorem in_mid {α : Type} {x : α} {A B : List α} : ∀ p ∈ A ++ B, p ∈ A ++ x :: B := fun _ hp => (List.mem_append.mp hp).elim (fun h => List.mem_append_left _ h) (fun h => List.mem_append_right _ (.tail _ h))
theorem in_app {α : Type} {x : α} {A B C : List α} : ∀ p ∈ (A ++ B) ++ C, p ∈ A ++ x :: (B ++ C) := fun p hp => in_mid p (by rw [← List.append_assoc]; exact hp)
noncomputable def joinsH (hd : _root_.Fin 4 → _root_.Fin 4) (ps : List (_root_.Fin 6)) : _root_.Fin 4 → _root_.Fin 4 := ps.foldl (fun hd p => joinH hd (fstP p) (sndP p)) hd
theorem joinsH_snoc (hd : _root_.Fin 4 → _root_.Fin 4) (ps : List (_root_.Fin 6)) (p : _root_.Fin 6) : joinsH hd (ps ++ [p]) = joinH (joinsH hd ps) (fstP p) (sndP p) := by simp [joinsH]
set_option maxRecDepth 100000 in
set_option maxHeartbeats 0 in
set_option pp.maxSteps 100000 in
theorem join_loop {mean : ExcName → Option Value} {loose : List Str} {mg mb : Str → Option Value} (w : World) (h₀ : Heap) (fa : Addr) (cdv : Value) (m : Str → Option Value) (s : Shared) (Q : Flow → Shared → Prop) (E : Value → Shared → Prop)
   (KX : (KG w.params).In h₀) (T : Top VG loose mean mg mb h₀) (K0 : Below callerA h₀ [] h₀) (hE : PassesOwn (model PG w) (callerA.deeper (lawEnv h₀.objs.size fa cdv)) (lawEnv h₀.objs.size fa cdv) E)
   (o1 o2 o3 o4 o5 : Obj) (kt : Tok) (sa da hl ol : Addr) (dn pe ep : Nat) (rows : List Row) (hd : _root_.Fin 4 → _root_.Fin 4) (vs : List Value) (D : _root_.Fin 6 → Int) (ord : List (_root_.Fin 6)) (ma up : Nat) (tm tu : Tok) (rest : List (Addr × Obj))
   (ho2 : o2.data = .cell (some (.ref sa))) (hlen : ord.length ≤ 1000) (R : Mine.Rows rest vs (ord.map fun p => (D p, pairS p))) (hmu : ma ≤ up) (hup : up ≤ ord.length) (G : Good rows hd) (hrows : ∀ r ∈ rows, (r.a, r.obj) ∈ rest)
   (h1 : @LT.lt Nat _ hl da) (h2 : @LT.lt Nat _ da sa) (hne : ∀ p ∈ (ol, W.listOf vs.toArray ep) :: (h₀.objs.size + 1 + 1 + 1 + 1 + 1, o5) :: (h₀.objs.size + 1 + 1 + 1 + 1, o4) :: (h₀.objs.size + 1 + 1 + 1, o3) :: (h₀.objs.size + 1 + 1, o2) :: (h₀.objs.size + 1, o1) :: rest, p.1 ≠ hl)
    (e_order : m (Str.ofString "order") = some (.ref ol)) (e_made : m (Str.ofString "made") = some (.int ma tm)) (e_upto : m (Str.ofString "upto") = some (.int up tu))
   (F : Fr h₀ h₀.objs.size s.heap m)
   (N : News h₀ h₀.objs.size s.heap ((sa, instObj 229 da) :: (da, headD w kt hl dn) :: (hl, W.listOf (refs rows).toArray pe) :: (ol, W.listOf vs.toArray ep) :: (h₀.objs.size + 1 + 1 + 1 + 1 + 1, o5) :: (h₀.objs.size + 1 + 1 + 1 + 1, o4) :: (h₀.objs.size + 1 + 1 + 1, o3) :: (h₀.objs.size + 1 + 1, o2) :: (h₀.objs.size + 1, o1) :: rest))
   (done : ∀ h' tk m' rows' extra pe', (Good rows' (joinsH hd ((ord.drop ma).take (up - ma)))) → ((∀ r ∈ rows', r ∈ rows ∨ (r.a, r.obj) ∈ extra)) → ((∀ p ∈ extra, @LT.lt Nat _ sa p.1 ∧ ∀ q ∈ (ol, W.listOf vs.toArray ep) :: (h₀.objs.size + 1 + 1 + 1 + 1 + 1, o5) :: (h₀.objs.size + 1 + 1 + 1 + 1, o4) :: (h₀.objs.size + 1 + 1 + 1, o3) :: (h₀.objs.size + 1 + 1, o2) :: (h₀.objs.size + 1, o1) :: rest, @LT.lt Nat _ q.1 p.1)) → (∀ y, y ≠ Str.ofString "strait" → m' y = m y) → Fr h₀ h₀.objs.size h' m' → News h₀ h₀.objs.size h' ((sa, instObj 229 da) :: (da, headD w kt hl dn) :: (hl, W.listOf (refs rows').toArray pe') :: (extra ++ ((ol, W.listOf vs.toArray ep) :: (h₀.objs.size + 1 + 1 + 1 + 1 + 1, o5) :: (h₀.objs.size + 1 + 1 + 1 + 1, o4) :: (h₀.objs.size + 1 + 1 + 1, o3) :: (h₀.objs.size + 1 + 1, o2) :: (h₀.objs.size + 1, o1) :: rest))) → Q .next { s with heap := h', toks := tk }) :
   wpAny (model PG w) (callerA.deeper (lawEnv h₀.objs.size fa cdv)) (execs ([lvAt 1]) (lawEnv h₀.objs.size fa cdv)) Q E s := by
  w_on
  replace F := Fr_knows F [((Str.ofString "order"), .ref ol), ((Str.ofString "made"), .int ma tm), ((Str.ofString "upto"), .int up tu)] (kn1 e_order (kn1 e_made (kn1 e_upto kn0)))
  dsimp only [know] at F
  dsimp only [lawEnv, PG, KG, VG, S] at *
  conv in (occs := *) lawScope => all_goals whnf
  conv in (lvAt _) => whnf
  have hvl : vs.length = ord.length := by rw [R.len, List.length_map]
  k_steps
  refine go ?_
  refine For_src F (by intro _; with_unfolding_all rfl) hE ?_
  k_steps
  refine go ?_
  rename Fr _ _ _ _ => F2
  rename News _ _ _ _ => N2
  refine slice_list F2 N2 (News_isList N2 (l := ol) (vs := vs.toArray) (n := ep) (by (repeat first | with_reducible assumption | with_reducible exact List.mem_cons_self | with_reducible refine List.mem_cons_of_mem _ ?_ | with_reducible exact List.mem_append_left _ (by assumption) | with_reducible refine List.mem_append_right _ ?_))) (.int _ _) (.int _ _) ?_ (hsz := by rw [List.size_toArray, sizeLine_eq]; omega)
  intro h5 F5 N5
  rw [slicePick_run _ _ _ (by rw [List.size_toArray]; omega) hmu] at N5
  have hvl2 : ∀ p ∈ (sa, instObj 229 da) :: (da, headD w kt hl dn) :: (hl, W.listOf (refs rows).toArray pe) :: (ol, W.listOf vs.toArray ep) :: (h₀.objs.size + 1 + 1 + 1 + 1 + 1, o5) :: (h₀.objs.size + 1 + 1 + 1 + 1, o4) :: (h₀.objs.size + 1 + 1 + 1, o3) :: (h₀.objs.size + 1 + 1, o2) :: (h₀.objs.size + 1, o1) :: rest, @LT.lt Nat _ p.1 (s.heap.objs.size + 1) := fun p hp => Nat.lt_succ_of_lt (Heap.lt_size (N2 p hp).1)
  generalize hVL : s.heap.objs.size + 1 = vl at N5 hvl2 ⊢
  obtain ⟨vk, hvk⟩ : ∃ vk, ({ cls := .type "list", data := .seq ((vs.toArray.toList.drop ma).take (up - ma)).toArray } : Obj) = W.listOf ((vs.drop ma).take (up - ma)).toArray vk := ⟨_, rfl⟩
  rw [hvk] at N5
  clear F2 N2
  have hlv : ((vs.drop ma).take (up - ma)).length = ((ord.drop ma).take (up - ma)).length := by simp [hvl]
  refine SrcLoop.mk [(vl, W.listOf ((vs.drop ma).take (up - ma)).toArray vk)] (((vs.drop ma).take (up - ma)).length) _ _ _ (fun i m₁ nw => ∃ rows' extra pe', nw = (sa, instObj 229 da) :: (da, headD w kt hl dn) :: (hl, W.listOf (refs rows').toArray pe') :: (extra ++ ((vl, W.listOf ((vs.drop ma).take (up - ma)).toArray vk) :: (ol, W.listOf vs.toArray ep) :: (h₀.objs.size + 1 + 1 + 1 + 1 + 1, o5) :: (h₀.objs.size + 1 + 1 + 1 + 1, o4) :: (h₀.objs.size + 1 + 1 + 1, o3) :: (h₀.objs.size + 1 + 1, o2) :: (h₀.objs.size + 1, o1) :: rest)) ∧ Good rows' (joinsH hd (((ord.drop ma).take (up - ma)).take i)) ∧ (∀ r ∈ rows', r ∈ rows ∨ (r.a, r.obj) ∈ extra) ∧ (∀ p ∈ extra, @LT.lt Nat _ sa p.1 ∧ ∀ q ∈ (vl, W.listOf ((vs.drop ma).take (up - ma)).toArray vk) :: (ol, W.listOf vs.toArray ep) :: (h₀.objs.size + 1 + 1 + 1 + 1 + 1, o5) :: (h₀.objs.size + 1 + 1 + 1 + 1, o4) :: (h₀.objs.size + 1 + 1 + 1, o3) :: (h₀.objs.size + 1 + 1, o2) :: (h₀.objs.size + 1, o1) :: rest, @LT.lt Nat _ q.1 p.1) ∧ ∀ y, y ≠ Str.ofString "strait" → m₁ y = m y) (SrcAt.list (by rfl) N5 (.head _)) ?_ F5 (News_sub N5 (news' := (sa, instObj 229 da) :: (da, headD w kt hl dn) :: (hl, W.listOf (refs rows).toArray pe) :: ((vl, W.listOf ((vs.drop ma).take (up - ma)).toArray vk) :: (ol, W.listOf vs.toArray ep) :: (h₀.objs.size + 1 + 1 + 1 + 1 + 1, o5) :: (h₀.objs.size + 1 + 1 + 1 + 1, o4) :: (h₀.objs.size + 1 + 1 + 1, o3) :: (h₀.objs.size + 1 + 1, o2) :: (h₀.objs.size + 1, o1) :: rest)) ?_) ⟨rows, [], pe, rfl, by simpa [joinsH] using G, fun r hr => .inl hr, by simp, fun y hy => ?_⟩ ?_ ?_
  · rintro i m₁ nw ⟨rows', extra, pe', rfl, _⟩ p hp
    rw [List.mem_singleton] at hp
    subst hp
    (repeat first | with_reducible assumption | with_reducible exact List.mem_cons_self | with_reducible refine List.mem_cons_of_mem _ ?_ | with_reducible exact List.mem_append_left _ (by assumption) | with_reducible refine List.mem_append_right _ ?_)
  · (repeat with_reducible refine List.forall_mem_cons.mpr ⟨(by (repeat first | with_reducible assumption | with_reducible exact List.mem_cons_self | with_reducible refine List.mem_cons_of_mem _ ?_ | with_reducible exact List.mem_append_left _ (by assumption) | with_reducible refine List.mem_append_right _ ?_)), ?_⟩); first | exact fun _ hq => absurd hq List.not_mem_nil | (intro q hq; (repeat first | with_reducible assumption | with_reducible exact List.mem_cons_self | with_reducible refine List.mem_cons_of_mem _ ?_ | with_reducible exact List.mem_append_left _ (by assumption) | with_reducible refine List.mem_append_right _ ?_); done) | (intro q hq; rcases List.mem_append.mp hq with hq | hq <;> (repeat first | with_reducible assumption | with_reducible exact List.mem_cons_self | with_reducible refine List.mem_cons_of_mem _ ?_ | with_reducible exact List.mem_append_left _ (by assumption) | with_reducible refine List.mem_append_right _ ?_))
  · try dsimp only
    refine know_if e_order ?_
    refine know_if e_made ?_
    exact know_if e_upto rfl
  · clear F5 N5
    rintro i v m₁ nw h tk I o hi hvi ⟨rows', extra, pe', rfl, G', hro, hex, hm⟩ hI F N
    have hrows' : ∀ r ∈ rows', (r.a, r.obj) ∈ extra ++ rest := fun r hr => (hro r hr).elim (fun h => List.mem_append_right _ (hrows r h)) (fun h => List.mem_append_left _ h)
    have hi' : i < ((ord.drop ma).take (up - ma)).length := by rw [← hlv]; exact hi
    obtain ⟨p, hp⟩ : ∃ p, ((ord.drop ma).take (up - ma))[i]? = some p := ⟨_, List.getElem?_eq_getElem hi'⟩
    have hi2 : i < up - ma := by rw [List.length_take] at hi'; omega
    have hv2 : vs[ma + i]? = some v := by
      rw [List.getElem?_take_of_lt hi2, List.getElem?_drop] at hvi
      exact hvi
    have hp2 : (ord.map fun p => (D p, pairS p))[ma + i]? = some (D p, pairS p) := by
      rw [List.getElem?_take_of_lt hi2, List.getElem?_drop] at hp
      rw [List.getElem?_map, hp]
      rfl
    obtain ⟨ta, ttk, tu, tn, rfl, htm⟩ := R.at_ _ _ _ hv2 hp2
    dsimp only at htm
    change Fr h₀ h₀.objs.size h m₁ at F
    change News h₀ h₀.objs.size h _ at N
    have htm2 : (ta, tupO [Value.int (D p) ttk, Value.str (pairS p) tu] tn) ∈ extra ++ ((vl, W.listOf ((vs.drop ma).take (up - ma)).toArray vk) :: (ol, W.listOf vs.toArray ep) :: (h₀.objs.size + 1 + 1 + 1 + 1 + 1, o5) :: (h₀.objs.size + 1 + 1 + 1 + 1, o4) :: (h₀.objs.size + 1 + 1 + 1, o3) :: (h₀.objs.size + 1 + 1, o2) :: (h₀.objs.size + 1, o1) :: rest) := by (repeat first | with_reducible assumption | with_reducible exact List.mem_cons_self | with_reducible refine List.mem_cons_of_mem _ ?_ | with_reducible exact List.mem_append_left _ (by assumption) | with_reducible refine List.mem_append_right _ ?_)
    have hIhl : I ≠ hl := fun e => hI (hl, W.listOf (refs rows').toArray pe') (by (repeat first | with_reducible assumption | with_reducible exact List.mem_cons_self | with_reducible refine List.mem_cons_of_mem _ ?_ | with_reducible exact List.mem_append_left _ (by assumption) | with_reducible refine List.mem_append_right _ ?_)) e.symm
    have hvlne : vl ≠ hl := Nat.ne_of_gt (hvl2 (hl, W.listOf (refs rows).toArray pe) (by (repeat first | with_reducible assumption | with_reducible exact List.mem_cons_self | with_reducible refine List.mem_cons_of_mem _ ?_ | with_reducible exact List.mem_append_left _ (by assumption) | with_reducible refine List.mem_append_right _ ?_)))
    have hehl : ∀ q ∈ extra ++ ((vl, W.listOf ((vs.drop ma).take (up - ma)).toArray vk) :: (ol, W.listOf vs.toArray ep) :: (h₀.objs.size + 1 + 1 + 1 + 1 + 1, o5) :: (h₀.objs.size + 1 + 1 + 1 + 1, o4) :: (h₀.objs.size + 1 + 1 + 1, o3) :: (h₀.objs.size + 1 + 1, o2) :: (h₀.objs.size + 1, o1) :: rest), q.1 ≠ hl := fun q hq => by
      rcases List.mem_append.mp hq with hq | hq
      · exact Nat.ne_of_gt (Nat.lt_trans (Nat.lt_trans h1 h2) (hex q hq).1)
      · rcases List.mem_cons.mp hq with rfl | hq
        · exact hvlne
        · exact hne q hq
    have hc2 : (h₀.objs.size + 1 + 1, o2) ∈ extra ++ ((vl, W.listOf ((vs.drop ma).take (up - ma)).toArray vk) :: (ol, W.listOf vs.toArray ep) :: (h₀.objs.size + 1 + 1 + 1 + 1 + 1, o5) :: (h₀.objs.size + 1 + 1 + 1 + 1, o4) :: (h₀.objs.size + 1 + 1 + 1, o3) :: (h₀.objs.size + 1 + 1, o2) :: (h₀.objs.size + 1, o1) :: rest) := by (repeat first | with_reducible assumption | with_reducible exact List.mem_cons_self | with_reducible refine List.mem_cons_of_mem _ ?_ | with_reducible exact List.mem_append_left _ (by assumption) | with_reducible refine List.mem_append_right _ ?_)
    have hrows2 : ∀ r ∈ rows', (r.a, r.obj) ∈ extra ++ ((vl, W.listOf ((vs.drop ma).take (up - ma)).toArray vk) :: (ol, W.listOf vs.toArray ep) :: (h₀.objs.size + 1 + 1 + 1 + 1 + 1, o5) :: (h₀.objs.size + 1 + 1 + 1 + 1, o4) :: (h₀.objs.size + 1 + 1 + 1, o3) :: (h₀.objs.size + 1 + 1, o2) :: (h₀.objs.size + 1, o1) :: rest) := fun r hr => by
      rcases List.mem_append.mp (hrows' r hr) with h | h
      · exact List.mem_append_left _ h
      · exact List.mem_append_right _ (.tail _ (.tail _ (.tail _ (.tail _ (.tail _ (.tail _ (.tail _ h)))))))
    generalize hxs : extra ++ ((vl, W.listOf ((vs.drop ma).take (up - ma)).toArray vk) :: (ol, W.listOf vs.toArray ep) :: (h₀.objs.size + 1 + 1 + 1 + 1 + 1, o5) :: (h₀.objs.size + 1 + 1 + 1 + 1, o4) :: (h₀.objs.size + 1 + 1 + 1, o3) :: (h₀.objs.size + 1 + 1, o2) :: (h₀.objs.size + 1, o1) :: rest) = xs at *
    have N0 := N
    replace N := News_cons (News_cons N (p := (ta, tupO [Value.int (D p) ttk, Value.str (pairS p) tu] tn)) (by (repeat first | with_reducible assumption | with_reducible exact List.mem_cons_self | with_reducible refine List.mem_cons_of_mem _ ?_ | with_reducible exact List.mem_append_left _ (by assumption) | with_reducible refine List.mem_append_right _ ?_))) (p := (h₀.objs.size + 1 + 1, o2)) (by (repeat first | with_reducible assumption | with_reducible exact List.mem_cons_self | with_reducible refine List.mem_cons_of_mem _ ?_ | with_reducible exact List.mem_append_left _ (by assumption) | with_reducible refine List.mem_append_right _ ?_))
    k_steps
    refine go ?_
    rename Fr _ _ _ _ => F4
    rename News _ _ _ _ => N4
    have N5 := News_sub N4 (news' := (sa, instObj 229 da) :: (da, headD w kt hl dn) :: (hl, W.listOf (refs rows').toArray pe') :: ((I, o) :: xs)) (by
      (repeat with_reducible refine List.forall_mem_cons.mpr ⟨(by (repeat first | with_reducible assumption | with_reducible exact List.mem_cons_self | with_reducible refine List.mem_cons_of_mem _ ?_ | with_reducible exact List.mem_append_left _ (by assumption) | with_reducible refine List.mem_append_right _ ?_)), ?_⟩); first | exact fun _ hq => absurd hq List.not_mem_nil | (intro q hq; (repeat first | with_reducible assumption | with_reducible exact List.mem_cons_self | with_reducible refine List.mem_cons_of_mem _ ?_ | with_reducible exact List.mem_append_left _ (by assumption) | with_reducible refine List.mem_append_right _ ?_); done) | (intro q hq; rcases List.mem_append.mp hq with hq | hq <;> (repeat first | with_reducible assumption | with_reducible exact List.mem_cons_self | with_reducible refine List.mem_cons_of_mem _ ?_ | with_reducible exact List.mem_append_left _ (by assumption) | with_reducible refine List.mem_append_right _ ?_)))
    refine CallSpec.use (join_spec w kt sa da hl pe' dn false true (fstP p) (sndP p) _ _ rows' _ G' ((I, o) :: xs) (fun r hr => .tail _ (hrows2 r hr)) h1 h2 ?_) (by assumption) F4 (by assumption) N5 (by assumption) rfl rfl ?_ ?_ ?_
    · intro q hq
      rcases List.mem_cons.mp hq with rfl | hq
      · exact hIhl
      · exact hehl q hq
    · ktr_room
    · ktr_units
    refine JoinR.on fun rows2 ex2 pe2 h' tk' G2 hr2 hx2 F6 N6 => ?_
    clear F4 N4 N5
    k_steps
    rename Fr _ _ _ _ => F7
    rename News _ _ _ _ => N7
    subst hxs
    refine TurnU.intro F7 (nw := (sa, instObj 229 da) :: (da, headD w kt hl dn) :: (hl, W.listOf (refs rows2).toArray pe2) :: ((ex2 ++ extra) ++ ((vl, W.listOf ((vs.drop ma).take (up - ma)).toArray vk) :: (ol, W.listOf vs.toArray ep) :: (h₀.objs.size + 1 + 1 + 1 + 1 + 1, o5) :: (h₀.objs.size + 1 + 1 + 1 + 1, o4) :: (h₀.objs.size + 1 + 1 + 1, o3) :: (h₀.objs.size + 1 + 1, o2) :: (h₀.objs.size + 1, o1) :: rest))) (News_sub N7 ?_) ?_ ⟨rows2, ex2 ++ extra, pe2, rfl, ?_, ?_, ?_, fun y hy => ?_⟩
    · exact List.forall_mem_cons.mpr ⟨.tail _ (.tail _ (.tail _ (List.mem_append_right _ (.head _)))), in_cons (in_cons (in_cons in_app))⟩
    · intro q hq
      rcases List.mem_cons.mp hq with rfl | hq
      · exact hI _ (.head _)
      rcases List.mem_cons.mp hq with rfl | hq
      · exact hI _ (.tail _ (.head _))
      rcases List.mem_cons.mp hq with rfl | hq
      · exact fun e => hIhl e.symm
      rw [List.append_assoc] at hq
      rcases List.mem_append.mp hq with hq | hq
      · exact Nat.ne_of_gt ((hx2 q hq).2 (I, o) (.head _))
      · exact hI q (.tail _ (.tail _ (.tail _ hq)))
    · rw [take_snoc hp, joinsH_snoc]
      exact G2
    · intro r hr
      rcases hr2 r hr with h | h
      · exact (hro r h).imp id (fun h => List.mem_append_right _ h)
      · exact .inr (List.mem_append_left _ h)
    · intro q hq
      rcases List.mem_append.mp hq with hq | hq
      · exact ⟨(hx2 q hq).1, fun q' hq' => (hx2 q hq).2 q' (.tail _ (List.mem_append_right _ hq'))⟩
      · exact hex q hq
    · dsimp only
      rw [if_neg hy]
      exact hm y hy
  · rintro h' tk m' nw F4 N4 ⟨rows', extra, pe', rfl, G', hrows', hex, hm⟩
    rw [hlv, List.take_length] at G'
    k_steps
    refine done _ _ _ rows' extra pe' G' hrows' (fun p hp => ⟨(hex p hp).1, fun q hq => (hex p hp).2 q (.tail _ hq)⟩) hm F4 (News_sub N4 ?_)
    exact in_cons (in_cons (in_cons in_mid))
end Mine
end
section
open PySem PySem.W PySem.Calls PyProof.Rows
namespace Mine
theorem fillB3 : (PySem.Challenge.rw_ty0055_01, Mine.hd.heap_1) = (PySem.Challenge.rw_ty0055_01, Mine.hd.heap_1) := by
  k_fill
  rfl
local macro_rules | `(tactic| walk_at "call ref") => `(tactic| ((with_reducible show wpAny _ _ (call (Value.ref 176) _ _) _ _ _); refine halt ?_))

local macro_rules | `(tactic| walk_at "exec Assign cons ListComp") => `(tactic| (refine halt ?_))
theorem tests_nil {M : Model} {A : Around} {cenv : Env} {Q : Bool → Shared → Prop} {E : Value → Shared → Prop} {s : Shared} (h : Q true s) : wpAny M A (testsOf [] cenv) Q E s := by
  unfold testsOf
  rw [List.forIn_nil]
  exact wpAny_pure h
theorem off1_mem {D : Addr} : ∀ {l : List (Addr × Obj)}, LCg.Off1 D l → ∀ p ∈ l, p.1 ≠ D
  | [], _, _, h => nomatch h
  | _ :: _, x, p, h => by
    rcases List.mem_cons.mp h with rfl | h
    · exact x.1
    · exact off1_mem x.2 p h
noncomputable def four : List (_root_.Fin 4) := [0, 1, 2, 3]
theorem abcd_cps : (Str.ofString "abcd").cps = #[97, 98, 99, 100] := by decide +kernel
theorem sign_abcd {i : Nat} {v : Value} (h : SignAt (Str.ofString "abcd") i v) : ∃ j u, four[i]? = some j ∧ v = .str (ltr false j) u := by
  obtain ⟨c, u, hc, rfl⟩ := h
  rw [abcd_cps] at hc
  match i, hc with
  | 0, hc => exact ⟨0, u, rfl, by cases hc; rw [ltr_code]; rfl⟩
  | 1, hc => exact ⟨1, u, rfl, by cases hc; rw [ltr_code]; rfl⟩
  | 2, hc => exact ⟨2, u, rfl, by cases hc; rw [ltr_code]; rfl⟩
  | 3, hc => exact ⟨3, u, rfl, by cases hc; rw [ltr_code]; rfl⟩
  | i + 4, hc => simp at hc
theorem strs_cons {vs : List Value} {x : Str} {l : List Str} (h : StrsAre vs (x :: l)) : ∃ t w, vs = .str x t :: w ∧ StrsAre w l := by
  cases h with | cons _ t k => exact ⟨t, _, rfl, k⟩
theorem heads_of {ys : List Value} {hd : _root_.Fin 4 → _root_.Fin 4} (h : StrsAre ys (four.map fun j => ltr false (hd j))) : ∃ tu, ys = headsV hd tu := by
  obtain ⟨t0, w0, e0, k0⟩ := strs_cons h
  obtain ⟨t1, w1, e1, k1⟩ := strs_cons k0
  obtain ⟨t2, w2, e2, k2⟩ := strs_cons k1
  obtain ⟨t3, w3, e3, k3⟩ := strs_cons k2
  cases k3
  subst e3 e2 e1 e0
  exact ⟨fun j => match j with | 0 => t0 | 1 => t1 | 2 => t2 | 3 => t3, rfl⟩
set_option maxRecDepth 100000 in
set_option maxHeartbeats 0 in
set_option pp.maxSteps 100000 in
theorem heads_step {mean : ExcName → Option Value} {loose : List Str} {mg mb : Str → Option Value} (w : World) (h₀ : Heap) (fa : Addr) (cdv : Value) (m : Str → Option Value) (s : Shared) (Q : Flow → Shared → Prop) (E : Value → Shared → Prop)
   (KX : (KG w.params).In h₀) (T : Top VG loose mean mg mb h₀) (K0 : Below callerA h₀ [] h₀) (hE : PassesOwn (model PG w) (callerA.deeper (lawEnv h₀.objs.size fa cdv)) (lawEnv h₀.objs.size fa cdv) E)
   (o1 o2 o3 o4 o5 : Obj) (kt : Tok) (sa da hl : Addr) (dn pe : Nat) (rows : List Row) (hd : _root_.Fin 4 → _root_.Fin 4) (rest : List (Addr × Obj))
   (ho2 : o2.data = .cell (some (.ref sa))) (G : Good rows hd) (hrows : ∀ r ∈ rows, (r.a, r.obj) ∈ rest)
   
   (F : Fr h₀ h₀.objs.size s.heap m)
   (N : News h₀ h₀.objs.size s.heap ((sa, instObj 229 da) :: (da, headD w kt hl dn) :: (hl, W.listOf (refs rows).toArray pe) :: (h₀.objs.size + 1 + 1 + 1 + 1 + 1, o5) :: (h₀.objs.size + 1 + 1 + 1 + 1, o4) :: (h₀.objs.size + 1 + 1 + 1, o3) :: (h₀.objs.size + 1 + 1, o2) :: (h₀.objs.size + 1, o1) :: rest))
   (done : ∀ h' tk m' D tu he, (m' (Str.ofString "heads") = some (.ref D)) → ((∀ y, y ≠ Str.ofString "heads" → m' y = m y)) → (∀ p ∈ (sa, instObj 229 da) :: (da, headD w kt hl dn) :: (hl, W.listOf (refs rows).toArray pe) :: (h₀.objs.size + 1 + 1 + 1 + 1 + 1, o5) :: (h₀.objs.size + 1 + 1 + 1 + 1, o4) :: (h₀.objs.size + 1 + 1 + 1, o3) :: (h₀.objs.size + 1 + 1, o2) :: (h₀.objs.size + 1, o1) :: rest, p.1 ≠ D) → Fr h₀ h₀.objs.size h' m' → News h₀ h₀.objs.size h' ((D, W.listOf (headsV hd tu).toArray he) :: (sa, instObj 229 da) :: (da, headD w kt hl dn) :: (hl, W.listOf (refs rows).toArray pe) :: (h₀.objs.size + 1 + 1 + 1 + 1 + 1, o5) :: (h₀.objs.size + 1 + 1 + 1 + 1, o4) :: (h₀.objs.size + 1 + 1 + 1, o3) :: (h₀.objs.size + 1 + 1, o2) :: (h₀.objs.size + 1, o1) :: rest) → Q .next { s with heap := h', toks := tk }) :
   wpAny (model PG w) (callerA.deeper (lawEnv h₀.objs.size fa cdv)) (execs ([lvAt 3]) (lawEnv h₀.objs.size fa cdv)) Q E s := by
  w_on
  dsimp only [lawEnv, PG, KG, VG, S] at *
  conv in (occs := *) lawScope => all_goals whnf
  conv in (lvAt _) => whnf
  k_steps
  refine go ?_
  refine assign_comp F (by rfl) (by rfl) (by decide) (by rfl) (by decide) (by rfl) (by intro _; with_unfolding_all rfl) (by rfl) (by rfl) ?_
  k_steps
  refine SrcComp.mk [] ((Str.ofString "abcd").cps.size) _ _ (fun i ys nw => nw = (sa, instObj 229 da) :: (da, headD w kt hl dn) :: (hl, W.listOf (refs rows).toArray pe) :: (h₀.objs.size + 1 + 1 + 1 + 1 + 1, o5) :: (h₀.objs.size + 1 + 1 + 1 + 1, o4) :: (h₀.objs.size + 1 + 1 + 1, o3) :: (h₀.objs.size + 1 + 1, o2) :: (h₀.objs.size + 1, o1) :: rest ∧ StrsAre ys ((four.take i).map fun j => ltr false (hd j))) (SrcAt.str (by rfl)) (by rw [abcd_cps]; decide) (fun _ _ _ _ _ h => (nomatch h)) F N (fun _ h => (nomatch h)) ⟨rfl, .nil⟩ ?_ ?_
  · clear F N
    rintro g i v ys nw I oI C oC D m₂ h tk E' ⟨hi, hv⟩ ⟨rfl, hS⟩ hC hx Fc Nc off ⟨ne1, ne2, ne3⟩
    obtain ⟨j, u, hj, rfl⟩ := sign_abcd hv
    obtain ⟨gu, hg⟩ := G.get j
    refine tests_nil ?_
    dsimp only [if_true]
    have Nc2 := News_sub Nc (news' := (C, oC) :: (h₀.objs.size + 1 + 1, o2) :: (sa, instObj 229 da) :: (da, headD w kt hl dn) :: (hl, W.listOf (refs rows).toArray pe) :: (I, oI) :: (D, LCg.lst ys) :: (h₀.objs.size + 1 + 1 + 1 + 1 + 1, o5) :: (h₀.objs.size + 1 + 1 + 1 + 1, o4) :: (h₀.objs.size + 1 + 1 + 1, o3) :: (h₀.objs.size + 1 + 1, o2) :: (h₀.objs.size + 1, o1) :: rest) (by
      (repeat with_reducible refine List.forall_mem_cons.mpr ⟨(by (repeat first | with_reducible assumption | with_reducible exact List.mem_cons_self | with_reducible refine List.mem_cons_of_mem _ ?_ | with_reducible exact List.mem_append_left _ (by assumption) | with_reducible refine List.mem_append_right _ ?_)), ?_⟩); first | exact fun _ hq => absurd hq List.not_mem_nil | (intro q hq; (repeat first | with_reducible assumption | with_reducible exact List.mem_cons_self | with_reducible refine List.mem_cons_of_mem _ ?_ | with_reducible exact List.mem_append_left _ (by assumption) | with_reducible refine List.mem_append_right _ ?_); done) | (intro q hq; rcases List.mem_append.mp hq with hq | hq <;> (repeat first | with_reducible assumption | with_reducible exact List.mem_cons_self | with_reducible refine List.mem_cons_of_mem _ ?_ | with_reducible exact List.mem_append_left _ (by assumption) | with_reducible refine List.mem_append_right _ ?_)))
    clear Nc
    dsimp only [headD] at *
    change Fr h₀ h₀.objs.size h m at Fc
    change News h₀ h₀.objs.size h _ at Nc2
    k_steps
    refine go ?_
    rename Fr _ _ _ _ => F4
    rename News _ _ _ _ => N4
    refine CallSpec.use (get_spec w kt sa da hl pe dn false j u rows ((I, oI) :: (C, oC) :: (D, LCg.lst ys) :: (h₀.objs.size + 1 + 1 + 1 + 1 + 1, o5) :: (h₀.objs.size + 1 + 1 + 1 + 1, o4) :: (h₀.objs.size + 1 + 1 + 1, o3) :: (h₀.objs.size + 1 + 1, o2) :: (h₀.objs.size + 1, o1) :: rest) (fun r hr => .tail _ (.tail _ (.tail _ (.tail _ (.tail _ (.tail _ (.tail _ (.tail _ (hrows r hr))))))))) ) (by assumption) F4 (by assumption) (News_sub N4 ?_) (by assumption) rfl rfl ?_ ?_ ?_
    · (repeat with_reducible refine List.forall_mem_cons.mpr ⟨(by (repeat first | with_reducible assumption | with_reducible exact List.mem_cons_self | with_reducible refine List.mem_cons_of_mem _ ?_ | with_reducible exact List.mem_append_left _ (by assumption) | with_reducible refine List.mem_append_right _ ?_)), ?_⟩); first | exact fun _ hq => absurd hq List.not_mem_nil | (intro q hq; (repeat first | with_reducible assumption | with_reducible exact List.mem_cons_self | with_reducible refine List.mem_cons_of_mem _ ?_ | with_reducible exact List.mem_append_left _ (by assumption) | with_reducible refine List.mem_append_right _ ?_); done) | (intro q hq; rcases List.mem_append.mp hq with hq | hq <;> (repeat first | with_reducible assumption | with_reducible exact List.mem_cons_self | with_reducible refine List.mem_cons_of_mem _ ?_ | with_reducible exact List.mem_append_left _ (by assumption) | with_reducible refine List.mem_append_right _ ?_))
    · ktr_room
    · ktr_units
    rintro v nw h' tk' ⟨rfl, rfl⟩ F6 N6
    clear F4 N4
    rw [hg]
    k_steps
    rename Fr _ _ _ _ => F7
    rename News _ _ _ _ => N7
    refine LCg.CompEnd.intro F7 N7 _ ?_ off trivial ⟨rfl, ?_⟩
    · (repeat with_reducible refine List.forall_mem_cons.mpr ⟨(by (repeat first | with_reducible assumption | with_reducible exact List.mem_cons_self | with_reducible refine List.mem_cons_of_mem _ ?_ | with_reducible exact List.mem_append_left _ (by assumption) | with_reducible refine List.mem_append_right _ ?_)), ?_⟩); first | exact fun _ hq => absurd hq List.not_mem_nil | (intro q hq; (repeat first | with_reducible assumption | with_reducible exact List.mem_cons_self | with_reducible refine List.mem_cons_of_mem _ ?_ | with_reducible exact List.mem_append_left _ (by assumption) | with_reducible refine List.mem_append_right _ ?_); done) | (intro q hq; rcases List.mem_append.mp hq with hq | hq <;> (repeat first | with_reducible assumption | with_reducible exact List.mem_cons_self | with_reducible refine List.mem_cons_of_mem _ ?_ | with_reducible exact List.mem_append_left _ (by assumption) | with_reducible refine List.mem_append_right _ ?_))
    · rw [take_snoc hj, List.map_append]
      exact Mine.StrsAre.snoc hS _ gu
  · clear F N
    rintro D h tk ys nw F1 N1 off ⟨rfl, hS⟩ h2 tk2 F2 N2
    have e4 : four.take (Str.ofString "abcd").cps.size = four := by rw [abcd_cps]; rfl
    rw [e4] at hS
    obtain ⟨tu, rfl⟩ := heads_of hS
    k_steps
    refine done _ _ _ D tu _ rfl (fun y hy => if_neg hy) ?_ F2 N2
    exact fun p hp => off1_mem off p hp
end Mine
end
section
open PySem PySem.W PySem.Calls PyProof.Rows
namespace Mine
local macro_rules | `(tactic| walk_at "one more line") => `(tactic| skip)
theorem fillB4 : (PySem.Challenge.rw_ty0055_01, Mine.hd.heap_1) = (PySem.Challenge.rw_ty0055_01, Mine.hd.heap_1) := by
  k_fill
  rfl

local macro_rules | `(tactic| walk_at "call type:set cons nil") => `(tactic| (refine halt ?_))
local macro_rules | `(tactic| walk_at "call builtin:len") => `(tactic| (refine halt ?_))
theorem headsV_are (hd : _root_.Fin 4 → _root_.Fin 4) (tu : _root_.Fin 4 → Tok) : StrsAre (headsV hd tu) ([0, 1, 2, 3].map fun j => ltr false (hd j)) := .cons _ _ (.cons _ _ (.cons _ _ (.cons _ _ .nil)))
theorem cnt_le (hd : _root_.Fin 4 → _root_.Fin 4) : cnt hd ≤ 4 := met_len _ 4
set_option maxRecDepth 100000 in
set_option maxHeartbeats 0 in
set_option pp.maxSteps 100000 in
theorem parted_step {mean : ExcName → Option Value} {loose : List Str} {mg mb : Str → Option Value} (w : World) (h₀ : Heap) (fa : Addr) (cdv : Value) (m : Str → Option Value) (s : Shared) (Q : Flow → Shared → Prop) (E : Value → Shared → Prop)
   (KX : (KG w.params).In h₀) (T : Top VG loose mean mg mb h₀) (K0 : Below callerA h₀ [] h₀) (hE : PassesOwn (model PG w) (callerA.deeper (lawEnv h₀.objs.size fa cdv)) (lawEnv h₀.objs.size fa cdv) E)
   (hdl : Addr) (hd : _root_.Fin 4 → _root_.Fin 4) (tu : _root_.Fin 4 → Tok) (he : Nat) (pa : Int) (tp : Tok) (rest : List (Addr × Obj)) (hp0 : 0 ≤ pa) (hp1 : pa ≤ 100)
    (e_heads : m (Str.ofString "heads") = some (.ref hdl)) (e_parted : m (Str.ofString "parted") = some (.int pa tp))
   (F : Fr h₀ h₀.objs.size s.heap m)
   (N : News h₀ h₀.objs.size s.heap ((hdl, W.listOf (headsV hd tu).toArray he) :: rest))
   (done : ∀ h' tk m', ((∃ t, m' (Str.ofString "parted") = some (.int (pa + ((cnt hd : Int) - 1)) t))) → ((∀ y, y ≠ Str.ofString "parted" → m' y = m y)) → Fr h₀ h₀.objs.size h' m' → News h₀ h₀.objs.size h' ((hdl, W.listOf (headsV hd tu).toArray he) :: rest) → Q .next { s with heap := h', toks := tk }) :
   wpAny (model PG w) (callerA.deeper (lawEnv h₀.objs.size fa cdv)) (execs ([lvAt 4]) (lawEnv h₀.objs.size fa cdv)) Q E s := by
  w_on
  replace F := Fr_knows F [((Str.ofString "heads"), .ref hdl), ((Str.ofString "parted"), .int pa tp)] (kn1 e_heads (kn1 e_parted kn0))
  dsimp only [know] at F
  dsimp only [lawEnv, PG, KG, VG, S] at *
  conv in (occs := *) lawScope => all_goals whnf
  conv in (lvAt _) => whnf
  k_steps
  refine go ?_
  rename Fr _ _ _ _ => F2
  rename News _ _ _ _ => N2
  refine set_list_N (by rfl) F2 N2 (.head _) (headsV_are hd tu) (by show 4 < 1000; decide) ?_
  intro h5 tk5 so F5 N5 hso
  clear F2 N2
  have hc := cnt_le hd
  k_steps
  refine go ?_
  refine set_len N5 (.head _) hso (n := cnt hd) (by omega) ?_
  try dsimp only
  k_steps
  rename Fr _ _ _ _ => F7
  rename News _ _ _ _ => N7
  refine done _ _ _ ⟨_, rfl⟩ (fun y hy => ?_) F7 (News_tail N7)
  rw [if_neg hy]
  exact know_if e_heads (know_if e_parted rfl)
set_option maxRecDepth 100000 in
set_option maxHeartbeats 0 in
set_option pp.maxSteps 100000 in
theorem waiting_step {mean : ExcName → Option Value} {loose : List Str} {mg mb : Str → Option Value} (w : World) (h₀ : Heap) (fa : Addr) (cdv : Value) (m : Str → Option Value) (s : Shared) (Q : Flow → Shared → Prop) (E : Value → Shared → Prop)
   (KX : (KG w.params).In h₀) (T : Top VG loose mean mg mb h₀) (K0 : Below callerA h₀ [] h₀) (hE : PassesOwn (model PG w) (callerA.deeper (lawEnv h₀.objs.size fa cdv)) (lawEnv h₀.objs.size fa cdv) E)
   (rest : List (Addr × Obj))
   
   (F : Fr h₀ h₀.objs.size s.heap m)
   (N : News h₀ h₀.objs.size s.heap (rest))
   (done : ∀ h' tk m' D, (m' (Str.ofString "waiting") = some (.ref D)) → ((∀ y, y ≠ Str.ofString "waiting" → m' y = m y)) → (∀ p ∈ rest, p.1 < D) → Fr h₀ h₀.objs.size h' m' → News h₀ h₀.objs.size h' ((D, W.listOf ([] : List Value).toArray 0) :: rest) → Q .next { s with heap := h', toks := tk }) :
   wpAny (model PG w) (callerA.deeper (lawEnv h₀.objs.size fa cdv)) (execs ([lvAt 5]) (lawEnv h₀.objs.size fa cdv)) Q E s := by
  w_on
  dsimp only [lawEnv, PG, KG, VG, S] at *
  conv in (occs := *) lawScope => all_goals whnf
  conv in (lvAt _) => whnf
  k_steps
  rename Fr _ _ _ _ => F7
  rename News _ _ _ _ => N7
  refine done _ _ _ _ rfl (fun y hy => ?_) (by assumption) F7 N7
  exact if_neg hy
set_option maxRecDepth 100000 in
set_option maxHeartbeats 0 in
set_option pp.maxSteps 100000 in
theorem apart_step {mean : ExcName → Option Value} {loose : List Str} {mg mb : Str → Option Value} (w : World) (h₀ : Heap) (fa : Addr) (cdv : Value) (m : Str → Option Value) (s : Shared) (Q : Flow → Shared → Prop) (E : Value → Shared → Prop)
   (KX : (KG w.params).In h₀) (T : Top VG loose mean mg mb h₀) (K0 : Below callerA h₀ [] h₀) (hE : PassesOwn (model PG w) (callerA.deeper (lawEnv h₀.objs.size fa cdv)) (lawEnv h₀.objs.size fa cdv) E)
   (rest : List (Addr × Obj))
   
   (F : Fr h₀ h₀.objs.size s.heap m)
   (N : News h₀ h₀.objs.size s.heap (rest))
   (done : ∀ h' tk m' D, (m' (Str.ofString "apart") = some (.ref D)) → ((∀ y, y ≠ Str.ofString "apart" → m' y = m y)) → (∀ p ∈ rest, p.1 < D) → Fr h₀ h₀.objs.size h' m' → News h₀ h₀.objs.size h' ((D, W.listOf ([] : List Value).toArray 0) :: rest) → Q .next { s with heap := h', toks := tk }) :
   wpAny (model PG w) (callerA.deeper (lawEnv h₀.objs.size fa cdv)) (execs ([lvAt 7]) (lawEnv h₀.objs.size fa cdv)) Q E s := by
  w_on
  dsimp only [lawEnv, PG, KG, VG, S] at *
  conv in (occs := *) lawScope => all_goals whnf
  conv in (lvAt _) => whnf
  k_steps
  rename Fr _ _ _ _ => F7
  rename News _ _ _ _ => N7
  refine done _ _ _ _ rfl (fun y hy => ?_) (by assumption) F7 N7
  exact if_neg hy
set_option maxRecDepth 100000 in
set_option maxHeartbeats 0 in
set_option pp.maxSteps 100000 in
theorem made_step {mean : ExcName → Option Value} {loose : List Str} {mg mb : Str → Option Value} (w : World) (h₀ : Heap) (fa : Addr) (cdv : Value) (m : Str → Option Value) (s : Shared) (Q : Flow → Shared → Prop) (E : Value → Shared → Prop)
   (KX : (KG w.params).In h₀) (T : Top VG loose mean mg mb h₀) (K0 : Below callerA h₀ [] h₀) (hE : PassesOwn (model PG w) (callerA.deeper (lawEnv h₀.objs.size fa cdv)) (lawEnv h₀.objs.size fa cdv) E)
   (up : Int) (tu : Tok) (rest : List (Addr × Obj))
    (e_upto : m (Str.ofString "upto") = some (.int up tu))
   (F : Fr h₀ h₀.objs.size s.heap m)
   (N : News h₀ h₀.objs.size s.heap (rest))
   (done : ∀ h' tk m', (m' (Str.ofString "made") = some (.int up tu)) → ((∀ y, y ≠ Str.ofString "made" → m' y = m y)) → Fr h₀ h₀.objs.size h' m' → News h₀ h₀.objs.size h' (rest) → Q .next { s with heap := h', toks := tk }) :
   wpAny (model PG w) (callerA.deeper (lawEnv h₀.objs.size fa cdv)) (execs ([lvAt 2]) (lawEnv h₀.objs.size fa cdv)) Q E s := by
  w_on
  replace F := Fr_knows F [((Str.ofString "upto"), .int up tu)] (kn1 e_upto kn0)
  dsimp only [know] at F
  dsimp only [lawEnv, PG, KG, VG, S] at *
  conv in (occs := *) lawScope => all_goals whnf
  conv in (lvAt _) => whnf
  k_steps
  rename Fr _ _ _ _ => F7
  rename News _ _ _ _ => N7
  refine done _ _ _ rfl (fun y hy => ?_) F7 N7
  rw [if_neg hy]
  exact know_if e_upto rfl
end Mine
end
section
open PySem PySem.W PySem.Calls PyProof.Rows
namespace Mine
theorem fillB8 : (PySem.Challenge.rw_ty0055_01, Mine.hd.heap_1) = (PySem.Challenge.rw_ty0055_01, Mine.hd.heap_1) := by
  k_fill
  rfl
local macro_rules | `(tactic| walk_at "call ref") => `(tactic| ((with_reducible show wpAny _ _ (call (Value.ref 55) _ _) _ _ _); refine halt ?_))

theorem ends_at (e0 e1 e2 : Tok) (r : Nat) (h : r < 3) : ∃ e, ([Value.str (endS 0) e0, Value.str (endS 1) e1, Value.str (endS 2) e2] : List Value)[((r : Nat) : Int).toNat]? = some (.str (endS r) e) := by
  match r, h with
  | 0, _ => exact ⟨e0, rfl⟩
  | 1, _ => exact ⟨e1, rfl⟩
  | 2, _ => exact ⟨e2, rfl⟩
theorem sum_rows (k : Nat) (ps : List (_root_.Fin 6)) : ((ps.map (rowS k)).map (·.length)).sum = ps.length * (k + 2) := by
  induction ps with
  | nil => simp
  | cons p ps ih =>
    simp only [List.map_cons, List.sum_cons, ih, rowS_len, List.length_cons]
    rw [Nat.add_mul]; omega
theorem endL_len (r : Nat) : (endL r).length ≤ 2 := by
  match r with
  | 0 => decide
  | 1 => decide
  | n + 2 => exact Nat.le_refl 2
theorem prod_small {a b n m : Nat} (h1 : a ≤ n) (h2 : b ≤ m) : a * b ≤ n * m := Nat.mul_le_mul h1 h2
theorem strs_of {l : List (Str × Tok)} {ss : List Str} (h : l.map (·.1) = ss) : StrsAre (strValues l) ss := by
  subst h
  induction l with
  | nil => exact .nil
  | cons x l ih => exact .cons _ _ ih
theorem pow3 : ∀ lv < 5, 0 < (3 : Int) ^ lv ∧ (3 : Int) ^ lv ≤ 81 := by decide +kernel
local macro_rules | `(tactic| walk_at "binaryOp Pow int int") => `(tactic| (refine halt ?_))
set_option maxRecDepth 100000 in
set_option maxHeartbeats 0 in
set_option pp.maxSteps 100000 in
theorem quote_step {mean : ExcName → Option Value} {loose : List Str} {mg mb : Str → Option Value} (w : World) (h₀ : Heap) (fa : Addr) (cdv : Value) (m : Str → Option Value) (s : Shared) (Q : Flow → Shared → Prop) (E : Value → Shared → Prop)
   (KX : (KG w.params).In h₀) (T : Top VG loose mean mg mb h₀) (K0 : Below callerA h₀ [] h₀) (hE : PassesOwn (model PG w) (callerA.deeper (lawEnv h₀.objs.size fa cdv)) (lawEnv h₀.objs.size fa cdv) E)
   (wl el apl : Addr) (wv : List Value) (we ek : Nat) (e0 e1 e2 : Tok) (T0 : Int) (tt tl : Tok) (lv : Nat) (hlv : lv < 5) (ps : List (_root_.Fin 6)) (hps : ps.length ≤ 6) (k : Nat) (hk : 0 < k) (hk7 : k < 7) (hW : StrsAre wv (ps.map (rowS k))) (rest : List (Addr × Obj))
    (e_waiting : m (Str.ofString "waiting") = some (.ref wl)) (e_ends : m (Str.ofString "ends") = some (.ref el)) (e_total : m (Str.ofString "total") = some (.int T0 tt)) (e_level : m (Str.ofString "level") = some (.int lv tl)) (e_apart : m (Str.ofString "apart") = some (.ref apl))
   (F : Fr h₀ h₀.objs.size s.heap m)
   (N : News h₀ h₀.objs.size s.heap ((wl, W.listOf wv.toArray we) :: (el, W.listOf [Value.str (endS 0) e0, Value.str (endS 1) e1, Value.str (endS 2) e2].toArray ek) :: rest))
   (done : ∀ h' tk m' nw, (∃ al av ae, m' (Str.ofString "apart") = some (.ref al) ∧ (∀ y, y ≠ Str.ofString "apart" → m' y = m y) ∧ StrsAre av (ps.map (rowS (k + 1))) ∧ ((nw = (wl, W.listOf wv.toArray we) :: (el, W.listOf [Value.str (endS 0) e0, Value.str (endS 1) e1, Value.str (endS 2) e2].toArray ek) :: rest ∧ al = apl ∧ av = []) ∨ (nw = (al, W.listOf av.toArray ae) :: (wl, W.listOf wv.toArray we) :: (el, W.listOf [Value.str (endS 0) e0, Value.str (endS 1) e1, Value.str (endS 2) e2].toArray ek) :: rest ∧ ∀ p ∈ (wl, W.listOf wv.toArray we) :: (el, W.listOf [Value.str (endS 0) e0, Value.str (endS 1) e1, Value.str (endS 2) e2].toArray ek) :: rest, p.1 < al))) → Fr h₀ h₀.objs.size h' m' → News h₀ h₀.objs.size h' nw → Q .next { s with heap := h', toks := tk }) :
   wpAny (model PG w) (callerA.deeper (lawEnv h₀.objs.size fa cdv)) (execs ([lvAt 8]) (lawEnv h₀.objs.size fa cdv)) Q E s := by
  w_on
  replace F := Fr_knows F [((Str.ofString "waiting"), .ref wl), ((Str.ofString "ends"), .ref el), ((Str.ofString "total"), .int T0 tt), ((Str.ofString "level"), .int lv tl), ((Str.ofString "apart"), .ref apl)] (kn1 e_waiting (kn1 e_ends (kn1 e_total (kn1 e_level (kn1 e_apart kn0)))))
  dsimp only [know] at F
  dsimp only [lawEnv, PG, KG, VG, S] at *
  conv in (occs := *) lawScope => all_goals whnf
  conv in (lvAt _) => whnf
  k_steps
  refine go ?_
  rename Fr _ _ _ _ => F2
  rename News _ _ _ _ => N2
  refine ne_strs (xs := wv) (ys := []) (News_isList N2 (l := wl) (vs := wv.toArray) (n := we) (by simp)) (News_isList N2 (vs := #[]) (n := 0) (.head _)) hW .nil (rows_ok k (by omega) ps) rfl (by ke_room) ?_
  cases ps with
  | nil =>
    rw [show decide (List.map (rowS k) [] = []) = true from decide_eq_true rfl]
    k_steps
    rename Fr _ _ _ _ => F8
    rename News _ _ _ _ => N8
    refine done _ _ _ _ ⟨apl, [], 0, rfl, fun y hy => ?_, .nil, .inl ⟨rfl, rfl, rfl⟩⟩ F8 (News_tail N8)
    refine know_if e_waiting ?_
    refine know_if e_ends ?_
    refine know_if e_total ?_
    refine know_if e_level ?_
    exact know_if e_apart rfl
  | cons p ps =>
    rw [decide_eq_false (by simp)]
    k_steps
    refine go ?_
    refine pow_int_small (by omega) (by omega) (by decide) ?_
    have hc : 0 < (3 : Int) ^ (lv : Int).toNat ∧ (3 : Int) ^ (lv : Int).toNat ≤ 81 := by
      rw [Int.toNat_natCast]
      exact pow3 lv hlv
    generalize (3 : Int) ^ (lv : Int).toNat = c at hc ⊢
    obtain ⟨hc0, hc1⟩ := hc
    try dsimp only
    k_steps
    refine go ?_
    have hr0 : 0 ≤ (T0.fdiv c).fmod 3 := fmod_lo _ (by decide)
    have hr1 : (T0.fdiv c).fmod 3 < 3 := fmod_hi _ (by decide)
    generalize (T0.fdiv c).fmod 3 = r at hr0 hr1 ⊢
    obtain ⟨rn, rfl⟩ : ∃ rn : Nat, r = (rn : Int) := ⟨r.toNat, by omega⟩
    have hrn : rn < 3 := by omega
    obtain ⟨et, he⟩ := ends_at e0 e1 e2 rn hrn
    obtain ⟨k', rfl⟩ : ∃ k', k = k' + 1 := ⟨k - 1, by omega⟩
    rename News _ _ _ _ => N3
    refine item_any (v := .str (endS rn) et) (News_isList N3 (l := el) (vs := _) (n := ek) (by repeat first | exact List.Mem.head _ | refine List.Mem.tail _ ?_)) hr0 (by omega) he ?_
    try dsimp only
    k_steps
    refine go ?_
    rename News _ _ _ _ => N4
    refine join_listW (items := wv.toArray) (News_isList N4 (l := wl) (n := we) (by repeat first | exact List.Mem.head _ | refine List.Mem.tail _ ?_)) hW ?_ ?_ ?_
    · exact Nat.le_trans (by show (List.toArray _).size ≤ 2; rw [List.size_toArray]; exact endL_len rn) (by decide)
    · rw [sum_rows, List.length_map]
      have := prod_small hps (show k' + 1 + 2 ≤ 9 by omega)
      omega
    intro t5 k5
    rw [endS, join_rows]
    try dsimp only
    k_steps
    refine go ?_
    rename Fr _ _ _ _ => F5
    rename News _ _ _ _ => N5
    have hpl : (ps.map (rowL k')).length < 59 := by rw [List.length_map]; simp at hps; omega
    have hps5 : ps.length ≤ 5 := by simpa using hps
    have size : ∀ (e : List Nat) (j : Nat), e.length ≤ 2 → j ≤ k' + 2 → (joinT e (rowL j p) (ps.map (rowL j))).length ≤ 190 := fun e j h1 h2 => by
      rw [joinT_len]
      have := prod_small hps5 (show j + 2 + e.length ≤ 12 by omega)
      omega
    rw [joinT_rows]
    refine CallSpec.use (quote_spec w (endL rn) (rowL k' p) (ps.map (rowL k')) _ (endL_is rn) (rowL_ok k' p) (fun t ht c h => by
      obtain ⟨q, _, rfl⟩ := List.mem_map.mp ht
      exact rowL_ok k' q c h) hpl ?_ ?_ ?_ _) (by assumption) F5 (by assumption) N5 (by assumption) rfl rfl ?_ ?_ ?_
    · rw [← joinT_rows]; exact size _ _ (endL_len rn) (by omega)
    · rw [← joinT_rows]; exact size _ _ (by decide) (by omega)
    · rw [← joinT_rows2]; exact size _ _ (by decide) (by omega)
    · ktr_room
    · ktr_units
    rintro v nw h' tk' ⟨⟨t6, rfl⟩, rfl⟩ F6 N6
    clear F5 N5
    rw [← joinT_rows2]
    k_steps
    refine go ?_
    refine splitN1 F6 N6 (by decide +kernel) ?_ (hsz := ?_)
    rotate_left
    · show (List.toArray _).size + 2 ≤ _
      have := size [13, 10] (k' + 2) (by decide) (by omega)
      rw [List.size_toArray, sizeLine_eq]; omega
    intro l h7 k7 hl F7 N7
    rw [crlf_lit, split_rows] at hl
    have hlt : ∀ q ∈ (wl, W.listOf wv.toArray we) :: (el, W.listOf [Value.str (endS 0) e0, Value.str (endS 1) e1, Value.str (endS 2) e2].toArray ek) :: rest, @LT.lt Nat _ q.1 h'.objs.size := fun q hq => Heap.lt_size (N6 q (.tail _ hq)).1
    clear F6 N6
    k_steps
    rename Fr _ _ _ _ => F8
    rename News _ _ _ _ => N8
    refine done _ _ _ _ ⟨_, strValues l, 0, rfl, fun y hy => ?_, strs_of hl, .inr ⟨rfl, hlt⟩⟩ F8 (News_sub N8 ?_)
    · rw [if_neg hy]
      refine know_if e_waiting ?_
      refine know_if e_ends ?_
      refine know_if e_total ?_
      refine know_if e_level ?_
      exact know_if e_apart rfl
    · intro q hq
      rcases List.mem_cons.mp hq with rfl | hq
      · exact .head _
      · exact .tail _ (.tail _ hq)
end Mine
end
section
open PySem PySem.W PySem.Calls PyProof.Rows
namespace Mine
noncomputable abbrev F4 := _root_.Fin 4
noncomputable abbrev F6 := _root_.Fin 6
noncomputable abbrev NatF := F6 → Nat
/-- the pair of two isles -/
noncomputable def pairOf : F4 → F4 → F6
  | 0, 1 => 0 | 1, 0 => 0 | 0, 2 => 1 | 2, 0 => 1 | 0, 3 => 2 | 3, 0 => 2 | 1, 2 => 3 | 2, 1 => 3 | 1, 3 => 4 | 3, 1 => 4 | 2, 3 => 5 | 3, 2 => 5
  | _, _ => 0
noncomputable def mk6 (a b c d e f : Bool) : F6 → Bool
  | 0 => a | 1 => b | 2 => c | 3 => d | 4 => e | 5 => f
theorem mk6_eq (S : F6 → Bool) : S = mk6 (S 0) (S 1) (S 2) (S 3) (S 4) (S 5) := by
  funext p
  match p with
  | 0 => rfl
  | 1 => rfl
  | 2 => rfl
  | 3 => rfl
  | 4 => rfl
  | 5 => rfl
noncomputable def adj (S : F6 → Bool) (i j : F4) : Bool := i != j && S (pairOf i j)
noncomputable def hop (S : F6 → Bool) (i j : F4) : Bool := i == j || adj S i j
noncomputable def hop2 (S : F6 → Bool) (i j : F4) : Bool := (hop S i 0 && hop S 0 j) || (hop S i 1 && hop S 1 j) || (hop S i 2 && hop S 2 j) || (hop S i 3 && hop S 3 j)
/-- two isles are joined by straits of S -/
noncomputable def reach (S : F6 → Bool) (i j : F4) : Bool := (hop S i 0 && hop2 S 0 j) || (hop S i 1 && hop2 S 1 j) || (hop S i 2 && hop2 S 2 j) || (hop S i 3 && hop2 S 3 j)
noncomputable def allB (f : Bool → Bool) : Bool := f false && f true
noncomputable def all4 (f : F4 → Bool) : Bool := f 0 && f 1 && f 2 && f 3
noncomputable def all6 (f : F6 → Bool) : Bool := f 0 && f 1 && f 2 && f 3 && f 4 && f 5
theorem allB_iff {f : Bool → Bool} (h : allB f = true) : ∀ b, f b = true := by
  rw [allB, Bool.and_eq_true] at h
  intro b; cases b
  · exact h.1
  · exact h.2
theorem all4_iff {f : F4 → Bool} (h : all4 f = true) : ∀ b, f b = true := by
  simp only [all4, Bool.and_eq_true] at h
  intro b
  match b with
  | 0 => exact h.1.1.1
  | 1 => exact h.1.1.2
  | 2 => exact h.1.2
  | 3 => exact h.2
theorem all6_iff {f : F6 → Bool} (h : all6 f = true) : ∀ b, f b = true := by
  simp only [all6, Bool.and_eq_true] at h
  intro b
  match b with
  | 0 => exact h.1.1.1.1.1
  | 1 => exact h.1.1.1.1.2
  | 2 => exact h.1.1.1.2
  | 3 => exact h.1.1.2
  | 4 => exact h.1.2
  | 5 => exact h.2
noncomputable def allS (f : (F6 → Bool) → Bool) : Bool := allB fun a => allB fun b => allB fun c => allB fun d => allB fun e => allB fun g => f (mk6 a b c d e g)
theorem allS_iff {f : (F6 → Bool) → Bool} (h : allS f = true) (S : F6 → Bool) : f S = true := by
  rw [mk6_eq S]
  exact allB_iff (allB_iff (allB_iff (allB_iff (allB_iff (allB_iff h _) _) _) _) _) _
noncomputable def addS (S : F6 → Bool) (p : F6) : F6 → Bool := fun q => S q || q == p
theorem reach_add0 : (allS fun S => all6 fun p => all4 fun i => all4 fun j => reach (addS S p) i j == (reach S i j || (reach S i (fstP p) && reach S j (sndP p)) || (reach S i (sndP p) && reach S j (fstP p)))) = true := by decide +kernel
theorem reach_none0 : (all4 fun i => all4 fun j => reach (fun _ => false) i j == (i == j)) = true := by decide +kernel
theorem reach_add (S : F6 → Bool) (p : F6) (i j : F4) : reach (addS S p) i j = (reach S i j || (reach S i (fstP p) && reach S j (sndP p)) || (reach S i (sndP p) && reach S j (fstP p))) := eq_of_beq (all4_iff (all4_iff (all6_iff (allS_iff reach_add0 S) p) i) j)
theorem reach_none (i j : F4) : reach (fun _ => false) i j = (i == j) := eq_of_beq (all4_iff (all4_iff reach_none0 i) j)
noncomputable def Conn (hd : F4 → F4) (S : F6 → Bool) : Prop := ∀ i j, (hd i == hd j) = reach S i j
theorem conn_id : Conn id (fun _ => false) := fun i j => by rw [reach_none]; rfl
theorem joinH_eq (hd : F4 → F4) (a b i j : F4) : (joinH hd a b i == joinH hd a b j) = ((hd i == hd j) || ((hd i == hd a) && (hd j == hd b)) || ((hd i == hd b) && (hd j == hd a))) := by
  unfold joinH
  rw [Bool.eq_iff_iff]
  simp only [Bool.or_eq_true, Bool.and_eq_true, beq_iff_eq]
  by_cases h1 : hd i = hd b <;> by_cases h2 : hd j = hd b
  · rw [if_pos h1, if_pos h2]
    exact ⟨fun _ => .inl (.inl (h1.trans h2.symm)), fun _ => rfl⟩
  · rw [if_pos h1, if_neg h2]
    constructor
    · intro h; exact .inr ⟨h1, h.symm⟩
    · rintro ((h | ⟨_, h⟩) | ⟨_, h⟩)
      · exact absurd (h.symm.trans h1) h2
      · exact absurd h h2
      · exact h.symm
  · rw [if_neg h1, if_pos h2]
    constructor
    · intro h; exact .inl (.inr ⟨h, h2⟩)
    · rintro ((h | ⟨h, _⟩) | ⟨h, _⟩)
      · exact absurd (h.trans h2) h1
      · exact h
      · exact absurd h h1
  · rw [if_neg h1, if_neg h2]
    constructor
    · intro h; exact .inl (.inl h)
    · rintro ((h | ⟨_, h⟩) | ⟨h, _⟩)
      · exact h
      · exact absurd h h2
      · exact absurd h h1
theorem conn_join {hd : F4 → F4} {S : F6 → Bool} (h : Conn hd S) (p : F6) : Conn (joinH hd (fstP p) (sndP p)) (addS S p) := fun i j => by
  rw [joinH_eq, reach_add, h, h, h, h, h]
noncomputable def addL (S : F6 → Bool) (ps : List F6) : F6 → Bool := fun q => S q || ps.contains q
theorem conn_joins {hd : F4 → F4} {S : F6 → Bool} (ps : List F6) (h : Conn hd S) : Conn (joinsH hd ps) (addL S ps) := by
  induction ps generalizing hd S with
  | nil =>
    have : addL S [] = S := by funext q; simp [addL]
    rw [this]; exact h
  | cons p ps ih =>
    have : addL S (p :: ps) = addL (addS S p) ps := by funext q; rw [Bool.eq_iff_iff]; simp [addL, addS, or_assoc]
    rw [this]
    exact ih (conn_join h p)
/-- the other two isles -/
noncomputable def oth0 : F6 → F4
  | 0 => 2 | 1 => 1 | 2 => 1 | 3 => 0 | 4 => 0 | 5 => 0
noncomputable def oth1 : F6 → F4
  | 0 => 3 | 1 => 3 | 2 => 2 | 3 => 3 | 4 => 2 | 5 => 1
noncomputable def dep (D : NatF) (i j : F4) : Nat := D (pairOf i j)
noncomputable def way0 (D : NatF) (p : F6) : Nat := dep D (fstP p) (sndP p)
noncomputable def way1 (D : NatF) (p : F6) : Nat := max (dep D (fstP p) (oth0 p)) (dep D (oth0 p) (sndP p))
noncomputable def way2 (D : NatF) (p : F6) : Nat := max (dep D (fstP p) (oth1 p)) (dep D (oth1 p) (sndP p))
noncomputable def way3 (D : NatF) (p : F6) : Nat := max (max (dep D (fstP p) (oth0 p)) (dep D (oth0 p) (oth1 p))) (dep D (oth1 p) (sndP p))
noncomputable def way4 (D : NatF) (p : F6) : Nat := max (max (dep D (fstP p) (oth1 p)) (dep D (oth1 p) (oth0 p))) (dep D (oth0 p) (sndP p))
/-- the least, over all ways, of the deepest strait -/
noncomputable def levN (D : NatF) (p : F6) : Nat := min (way0 D p) (min (way1 D p) (min (way2 D p) (min (way3 D p) (way4 D p))))
noncomputable def levB (S : F6 → Bool) (p : F6) : Bool :=
  let s := fun i j => S (pairOf i j)
  s (fstP p) (sndP p) || (s (fstP p) (oth0 p) && s (oth0 p) (sndP p)) || (s (fstP p) (oth1 p) && s (oth1 p) (sndP p)) || (s (fstP p) (oth0 p) && s (oth0 p) (oth1 p) && s (oth1 p) (sndP p)) || (s (fstP p) (oth1 p) && s (oth1 p) (oth0 p) && s (oth0 p) (sndP p))
theorem levB_reach0 : (allS fun S => all6 fun p => reach S (fstP p) (sndP p) == levB S p) = true := by decide +kernel
theorem levB_reach (S : F6 → Bool) (p : F6) : reach S (fstP p) (sndP p) = levB S p := eq_of_beq (all6_iff (allS_iff levB_reach0 S) p)
/-- the straits no deeper than L -/
noncomputable def upTo (D : NatF) (L : Nat) : F6 → Bool := fun q => decide (D q ≤ L)
noncomputable def below (D : NatF) (L : Nat) : F6 → Bool := fun q => decide (D q < L)
theorem below_succ (D : NatF) (L : Nat) : below D (L + 1) = upTo D L := by funext q; simp [below, upTo, Nat.lt_succ_iff]
theorem minle {a b c : Nat} : min a b ≤ c ↔ a ≤ c ∨ b ≤ c := by omega
theorem maxle {a b c : Nat} : max a b ≤ c ↔ a ≤ c ∧ b ≤ c := by omega
theorem lev_le (D : NatF) (L : Nat) (p : F6) : levB (upTo D L) p = decide (levN D p ≤ L) := by
  rw [Bool.eq_iff_iff]
  unfold levB
  dsimp only
  simp only [upTo, Bool.or_eq_true, Bool.and_eq_true, decide_eq_true_eq, levN, way0, way1, way2, way3, way4, dep, minle, maxle, or_assoc, and_assoc]
theorem lev_same {hd : F4 → F4} {D : NatF} {L : Nat} (h : Conn hd (upTo D L)) (p : F6) : (hd (fstP p) == hd (sndP p)) = decide (levN D p ≤ L) := by
  rw [h, levB_reach, lev_le]
theorem lev_lt {D : NatF} (h : ∀ p, D p < 5) (p : F6) : levN D p < 5 := by
  have h1 := h (pairOf (fstP p) (sndP p))
  show min (D (pairOf (fstP p) (sndP p))) _ < 5
  omega
/-- how many parts -/
noncomputable def clsR (r : F4 → F4 → Bool) : Nat := 1 + (if r 1 0 then 0 else 1) + (if r 2 0 || r 2 1 then 0 else 1) + (if r 3 0 || r 3 1 || r 3 2 then 0 else 1)
noncomputable def cls (S : F6 → Bool) : Nat := clsR (reach S)
noncomputable def mk4 (a b c d : F4) : F4 → F4
  | 0 => a | 1 => b | 2 => c | 3 => d
theorem mk4_eq (f : F4 → F4) : f = mk4 (f 0) (f 1) (f 2) (f 3) := by
  funext p
  match p with
  | 0 => rfl
  | 1 => rfl
  | 2 => rfl
  | 3 => rfl
theorem cnt_cls0 : (all4 fun a => all4 fun b => all4 fun c => all4 fun d => cnt (mk4 a b c d) == clsR (fun i j => mk4 a b c d i == mk4 a b c d j)) = true := by decide +kernel
theorem cnt_cls {hd : F4 → F4} {S : F6 → Bool} (h : Conn hd S) : cnt hd = cls S := by
  have e : cnt hd = clsR (fun i j => hd i == hd j) := by
    rw [mk4_eq hd]
    exact eq_of_beq (all4_iff (all4_iff (all4_iff (all4_iff cnt_cls0 _) _) _) _)
  rw [e, cls]
  congr 1
  funext i j
  exact h i j
end Mine
end
section
open PySem PySem.W PySem.Calls PyProof.Rows
namespace Mine
noncomputable def num (S : F6 → Bool) : Nat := (S 0).toNat + (S 1).toNat + (S 2).toNat + (S 3).toNat + (S 4).toNat + (S 5).toNat
noncomputable def subS (F S : F6 → Bool) : Bool := (!F 0 || S 0) && (!F 1 || S 1) && (!F 2 || S 2) && (!F 3 || S 3) && (!F 4 || S 4) && (!F 5 || S 5)
noncomputable def forest (F : F6 → Bool) : Bool := num F + cls F == 4
noncomputable def grow1 (F S : F6 → Bool) (p : F6) : F6 → Bool := if S p && !reach F (fstP p) (sndP p) then addS F p else F
noncomputable def norm (F : F6 → Bool) : F6 → Bool := mk6 (F 0) (F 1) (F 2) (F 3) (F 4) (F 5)
/-- a forest grown in S -/
noncomputable def grow (F S : F6 → Bool) : F6 → Bool := grow1 (grow1 (grow1 (grow1 (grow1 (grow1 F S 0) S 1) S 2) S 3) S 4) S 5
noncomputable def and6 (F S : F6 → Bool) : F6 → Bool := fun p => F p && S p
/-- all that is asked of growing -/
noncomputable def growOk (F S : F6 → Bool) : Bool := let G := norm (grow F S); subS F G && subS G S && forest G && cls G == cls S
theorem grow_ok0 : (allS fun F => !forest F || allS fun S => !subS F S || growOk F S) = true := by decide +kernel
/-- a forest within S has no more straits than S needs -/
theorem sub_ok0 : (allS fun F => allS fun S => !(forest F && subS F S) || decide (num F + cls S ≤ 4)) = true := by decide +kernel
theorem cut_ok0 : (allS fun F => !(forest F && cls F == 1) || allS fun S => forest (norm (and6 F S))) = true := by decide +kernel
theorem norm_eq (F : F6 → Bool) : norm F = F := (mk6_eq F).symm
theorem grow_ok {F S : F6 → Bool} (h : forest F = true) (h2 : subS F S = true) : subS F (grow F S) = true ∧ subS (grow F S) S = true ∧ forest (grow F S) = true ∧ cls (grow F S) = cls S := by
  have h3 := allS_iff grow_ok0 F
  rw [h, Bool.not_true, Bool.false_or] at h3
  have h4 := allS_iff h3 S
  rw [h2, Bool.not_true, Bool.false_or] at h4
  unfold growOk at h4
  dsimp only at h4
  rw [norm_eq] at h4
  simp only [Bool.and_eq_true, beq_iff_eq] at h4
  exact ⟨h4.1.1.1, h4.1.1.2, h4.1.2, h4.2⟩
theorem sub_ok {F S : F6 → Bool} (h : forest F = true) (h2 : subS F S = true) : num F + cls S ≤ 4 := by
  have h3 := allS_iff (allS_iff sub_ok0 F) S
  rw [h, h2] at h3
  simpa using h3
theorem cut_ok {F : F6 → Bool} (h : forest F = true) (h2 : cls F = 1) (S : F6 → Bool) : forest (and6 F S) = true := by
  have h3 := allS_iff cut_ok0 F
  rw [h, h2] at h3
  have h4 := allS_iff (by simpa using h3) S
  rwa [norm_eq] at h4
theorem subS_iff {F S : F6 → Bool} : subS F S = true ↔ ∀ p, F p = true → S p = true := by
  simp only [subS, Bool.and_eq_true, Bool.or_eq_true, Bool.not_eq_true']
  constructor
  · rintro ⟨⟨⟨⟨⟨h0, h1⟩, h2⟩, h3⟩, h4⟩, h5⟩ p hp
    match p, hp with
    | 0, hp => exact h0.resolve_left (by rw [hp]; decide)
    | 1, hp => exact h1.resolve_left (by rw [hp]; decide)
    | 2, hp => exact h2.resolve_left (by rw [hp]; decide)
    | 3, hp => exact h3.resolve_left (by rw [hp]; decide)
    | 4, hp => exact h4.resolve_left (by rw [hp]; decide)
    | 5, hp => exact h5.resolve_left (by rw [hp]; decide)
  · intro h
    have : ∀ p, F p = false ∨ S p = true := fun p => by
      cases e : F p
      · exact .inl rfl
      · exact .inr (h p e)
    exact ⟨⟨⟨⟨⟨this 0, this 1⟩, this 2⟩, this 3⟩, this 4⟩, this 5⟩
theorem num_mono {F S : F6 → Bool} (h : subS F S = true) : num F ≤ num S := by
  have h := subS_iff.mp h
  have t : ∀ p, (F p).toNat ≤ (S p).toNat := fun p => by
    cases e : F p
    · simp
    · rw [h p e]
      exact Nat.le_refl _
  have := t 0; have := t 1; have := t 2; have := t 3; have := t 4; have := t 5
  unfold num
  omega
/-- a tree that is the best for S -/
noncomputable def bestFor (T S : F6 → Bool) : Prop := num (and6 T S) + cls S = 4
theorem best_of {T S F : F6 → Bool} (hT : forest T = true) (h1 : cls T = 1) (hF : forest F = true) (h2 : cls F = cls S) (h3 : subS F T = true) (h4 : subS F S = true) : bestFor T S := by
  have a := sub_ok (cut_ok hT h1 S) (subS_iff.mpr fun p hp => by
    simp only [and6, Bool.and_eq_true] at hp
    exact hp.2)
  have b := num_mono (F := F) (S := and6 T S) (subS_iff.mpr fun p hp => by
    simp only [and6, Bool.and_eq_true]
    exact ⟨subS_iff.mp h3 p hp, subS_iff.mp h4 p hp⟩)
  have c : num F + cls F = 4 := by simpa [forest] using hF
  unfold bestFor
  omega
theorem forest_nil : forest (fun _ => false) = true := by decide +kernel
theorem subS_trans {A B C : F6 → Bool} (h : subS A B = true) (h2 : subS B C = true) : subS A C = true := subS_iff.mpr fun p hp => subS_iff.mp h2 p (subS_iff.mp h p hp)
theorem cls_all : cls (fun _ => true) = 1 := by decide +kernel
theorem best_tree (D : NatF) (h : ∀ p, D p < 5) : ∃ T, forest T = true ∧ cls T = 1 ∧ ∀ L < 5, bestFor T (upTo D L) := by
  have up : ∀ L M, L ≤ M → ∀ {F}, subS F (upTo D L) = true → subS F (upTo D M) = true := fun L M hl F hF => subS_trans hF (subS_iff.mpr fun p hp => by
    simp only [upTo, decide_eq_true_eq] at hp ⊢
    omega)
  obtain ⟨a1, a2, a3, a4⟩ := grow_ok (F := fun _ => false) (S := upTo D 0) forest_nil (subS_iff.mpr fun p hp => by cases hp)
  obtain ⟨b1, b2, b3, b4⟩ := grow_ok (S := upTo D 1) a3 (up 0 1 (by decide) a2)
  obtain ⟨c1, c2, c3, c4⟩ := grow_ok (S := upTo D 2) b3 (up 1 2 (by decide) b2)
  obtain ⟨d1, d2, d3, d4⟩ := grow_ok (S := upTo D 3) c3 (up 2 3 (by decide) c2)
  obtain ⟨e1, e2, e3, e4⟩ := grow_ok (S := upTo D 4) d3 (up 3 4 (by decide) d2)
  have all : upTo D 4 = fun _ => true := by
    funext p
    have := h p
    simp only [upTo, decide_eq_true_eq]
    omega
  have ec := e4.trans ((congrArg cls all).trans cls_all)
  refine ⟨_, e3, ec, fun L hL => ?_⟩
  have de := e1
  have ce := subS_trans d1 de
  have be := subS_trans c1 ce
  have ae := subS_trans b1 be
  match L, hL with
  | 0, _ => exact best_of e3 ec a3 a4 ae a2
  | 1, _ => exact best_of e3 ec b3 b4 be b2
  | 2, _ => exact best_of e3 ec c3 c4 ce c2
  | 3, _ => exact best_of e3 ec d3 d4 de d2
  | 4, _ => exact best_of e3 ec e3 (by rw [ec, all, cls_all]) (subS_iff.mpr fun p hp => hp) (subS_iff.mpr fun p hp => by rw [all])
/-- three straits, in the order of the law's loops -/
noncomputable def tripL : List (F6 × F6 × F6) := [(2,1,0), (3,1,0), (3,2,0), (3,2,1), (4,1,0), (4,2,0), (4,2,1), (4,3,0), (4,3,1), (4,3,2), (5,1,0), (5,2,0), (5,2,1), (5,3,0), (5,3,1), (5,3,2), (5,4,0), (5,4,1), (5,4,2), (5,4,3)]
noncomputable def touch (t : F6 × F6 × F6) (i : F4) : Bool := fstP t.1 == i || sndP t.1 == i || fstP t.2.1 == i || sndP t.2.1 == i || fstP t.2.2 == i || sndP t.2.2 == i
/-- they touch all four isles -/
noncomputable def span (t : F6 × F6 × F6) : Bool := touch t 0 && touch t 1 && touch t 2 && touch t 3
noncomputable def set3 (t : F6 × F6 × F6) : F6 → Bool := fun p => p == t.1 || p == t.2.1 || p == t.2.2
noncomputable def w3 (D : NatF) (t : F6 × F6 × F6) : Nat := D t.1 + D t.2.1 + D t.2.2
noncomputable def eqS (A B : F6 → Bool) : Bool := subS A B && subS B A
theorem trip_tree0 : (allS fun T => !(forest T && cls T == 1) || tripL.any fun t => span t && eqS T (set3 t)) = true := by decide +kernel
theorem trip_span : ∀ t ∈ tripL, span t = true → forest (set3 t) = true ∧ cls (set3 t) = 1 := by decide +kernel
theorem trip_num0 : (tripL.all fun t => allS fun S => num (and6 (set3 t) S) == (S t.1).toNat + (S t.2.1).toNat + (S t.2.2).toNat) = true := by decide +kernel
theorem trip_num {t : F6 × F6 × F6} (h : t ∈ tripL) (S : F6 → Bool) : num (and6 (set3 t) S) = (S t.1).toNat + (S t.2.1).toNat + (S t.2.2).toNat := eq_of_beq (allS_iff (List.all_eq_true.mp trip_num0 t h) S)
noncomputable def mst (D : NatF) : Nat := (cls (upTo D 0) - 1) + (cls (upTo D 1) - 1) + (cls (upTo D 2) - 1) + (cls (upTo D 3) - 1) + (cls (upTo D 4) - 1)
theorem cls_pos (S : F6 → Bool) : 1 ≤ cls S := by unfold cls clsR; omega
theorem bits (x : Nat) (h : x < 5) : (decide (x ≤ 0)).toNat + (decide (x ≤ 1)).toNat + (decide (x ≤ 2)).toNat + (decide (x ≤ 3)).toNat + (decide (x ≤ 4)).toNat + x = 5 := by
  match x, h with
  | 0, _ => rfl
  | 1, _ => rfl
  | 2, _ => rfl
  | 3, _ => rfl
  | 4, _ => rfl
theorem mst_le (D : NatF) (h : ∀ p, D p < 5) {t : F6 × F6 × F6} (ht : t ∈ tripL) (hs : span t = true) : mst D ≤ w3 D t := by
  obtain ⟨f, c⟩ := trip_span t ht hs
  have key : ∀ L, (decide (D t.1 ≤ L)).toNat + (decide (D t.2.1 ≤ L)).toNat + (decide (D t.2.2 ≤ L)).toNat + cls (upTo D L) ≤ 4 := fun L => by
    have := sub_ok (cut_ok f c (upTo D L)) (subS_iff.mpr fun p hp => by
      simp only [and6, Bool.and_eq_true] at hp
      exact hp.2)
    rw [trip_num ht] at this
    exact this
  have b1 := bits _ (h t.1); have b2 := bits _ (h t.2.1); have b3 := bits _ (h t.2.2)
  have k0 := key 0; have k1 := key 1; have k2 := key 2; have k3 := key 3; have k4 := key 4
  have p0 := cls_pos (upTo D 0); have p1 := cls_pos (upTo D 1); have p2 := cls_pos (upTo D 2); have p3 := cls_pos (upTo D 3); have p4 := cls_pos (upTo D 4)
  unfold mst w3
  omega
theorem mst_is (D : NatF) (h : ∀ p, D p < 5) : ∃ t ∈ tripL, span t = true ∧ mst D = w3 D t := by
  obtain ⟨T, f, c, hb⟩ := best_tree D h
  have h3 := allS_iff trip_tree0 T
  rw [f, c] at h3
  have h3 : (tripL.any fun t => span t && eqS T (set3 t)) = true := h3
  obtain ⟨t, ht, h4⟩ := List.any_eq_true.mp h3
  rw [Bool.and_eq_true] at h4
  refine ⟨t, ht, h4.1, ?_⟩
  have e : T = set3 t := by
    have h5 := h4.2
    rw [eqS, Bool.and_eq_true] at h5
    funext p
    rw [Bool.eq_iff_iff]
    exact ⟨subS_iff.mp h5.1 p, subS_iff.mp h5.2 p⟩
  subst e
  have key : ∀ L < 5, (decide (D t.1 ≤ L)).toNat + (decide (D t.2.1 ≤ L)).toNat + (decide (D t.2.2 ≤ L)).toNat + cls (upTo D L) = 4 := fun L hL => by
    have := hb L hL
    rw [bestFor, trip_num ht] at this
    exact this
  have b1 := bits _ (h t.1); have b2 := bits _ (h t.2.1); have b3 := bits _ (h t.2.2)
  have k0 := key 0 (by decide); have k1 := key 1 (by decide); have k2 := key 2 (by decide); have k3 := key 3 (by decide); have k4 := key 4 (by decide)
  have p0 := cls_pos (upTo D 0); have p1 := cls_pos (upTo D 1); have p2 := cls_pos (upTo D 2); have p3 := cls_pos (upTo D 3); have p4 := cls_pos (upTo D 4)
  unfold mst w3
  omega
end Mine
end
section
open PySem PySem.W PySem.Calls PyProof.Rows
namespace Mine
noncomputable def allP : List F6 := [0, 1, 2, 3, 4, 5]
theorem mem_allP (p : F6) : p ∈ allP := by
  match p with
  | 0 => decide
  | 1 => decide
  | 2 => decide
  | 3 => decide
  | 4 => decide
  | 5 => decide
/-- a row at home -/
noncomputable def rowF (D : NatF) (p : F6) : Str := rowS (levN D p + 1) p
noncomputable def psL (D : NatF) (i : Nat) : List F6 := allP.filter fun p => decide (i ≤ levN D p)
noncomputable def hsL (D : NatF) : Nat → List Str
  | 0 => []
  | i + 1 => hsL D i ++ (allP.filter fun p => decide (levN D p = i)).map (rowF D)
noncomputable def paL (D : NatF) : Nat → Int
  | 0 => 0
  | i + 1 => paL D i + ((cls (upTo D i) : Int) - 1)
theorem cls_le (S : F6 → Bool) : cls S ≤ 4 := by
  unfold cls clsR
  split <;> split <;> split <;> omega
theorem paL_bd (D : NatF) : ∀ i, 0 ≤ paL D i ∧ paL D i ≤ 3 * i
  | 0 => by simp [paL]
  | i + 1 => by
    have := paL_bd D i
    have h1 := cls_pos (upTo D i)
    have h2 := cls_le (upTo D i)
    unfold paL
    omega
theorem paL_mst (D : NatF) : paL D 5 = (mst D : Int) := by
  have p0 := cls_pos (upTo D 0); have p1 := cls_pos (upTo D 1); have p2 := cls_pos (upTo D 2); have p3 := cls_pos (upTo D 3); have p4 := cls_pos (upTo D 4)
  simp only [paL, mst]
  omega
theorem filter_split {l : List F6} {a b c : F6 → Bool} (h1 : ∀ p, c p = (a p || b p)) (h2 : ∀ p, a p = true → b p = false) : (l.filter a ++ l.filter b).Perm (l.filter c) := by
  induction l with
  | nil => exact .nil
  | cons p l ih =>
    cases ha : a p
    · cases hb : b p
      · simp only [List.filter_cons, h1, ha, hb]; exact ih
      · simp only [List.filter_cons, h1, ha, hb, Bool.or_true, if_true, Bool.false_eq_true, if_false]
        exact (List.perm_middle).trans (ih.cons p)
    · simp only [List.filter_cons, h1, ha, h2 p ha, Bool.true_or, if_true, Bool.false_eq_true, if_false]
      exact ih.cons p
theorem hsL_perm (D : NatF) : ∀ i, (hsL D i).Perm ((allP.filter fun p => decide (levN D p < i)).map (rowF D))
  | 0 => by simp [hsL]
  | i + 1 => by
    unfold hsL
    refine ((hsL_perm D i).append_right _).trans ?_
    rw [← List.map_append]
    refine List.Perm.map _ (filter_split (fun p => ?_) (fun p h => ?_))
    · rw [Bool.eq_iff_iff]
      simp only [Bool.or_eq_true, decide_eq_true_eq]
      omega
    · simp only [decide_eq_true_eq, decide_eq_false_iff_not] at h ⊢
      omega
theorem hsL_len (D : NatF) (i : Nat) : (hsL D i).length ≤ 6 := by
  rw [(hsL_perm D i).length_eq, List.length_map]
  exact List.length_filter_le _ allP
theorem hsL_all (D : NatF) (h : ∀ p, D p < 5) : (hsL D 5).Perm (allP.map (rowF D)) := by
  have := hsL_perm D 5
  rwa [List.filter_eq_self.mpr (fun p _ => decide_eq_true (lev_lt h p))] at this
theorem psL_len (D : NatF) (i : Nat) : (psL D i).length ≤ 6 := List.length_filter_le _ allP
theorem psL_zero (D : NatF) : psL D 0 = allP := List.filter_eq_self.mpr fun p _ => decide_eq_true (Nat.zero_le _)
theorem home_step {hd : F4 → F4} {D : NatF} {i : Nat} (h : Conn hd (upTo D i)) : hsL D i ++ ((psL D i).filter (same hd)).map (rowS (i + 1)) = hsL D (i + 1) := by
  show _ = hsL D i ++ _
  congr 1
  rw [psL, List.filter_filter]
  have e : (fun p => same hd p && decide (i ≤ levN D p)) = fun p => decide (levN D p = i) := by
    funext p
    rw [same, lev_same h, Bool.eq_iff_iff]
    simp only [Bool.and_eq_true, decide_eq_true_eq]
    omega
  rw [e]
  refine List.map_congr_left fun p hp => ?_
  have := (List.mem_filter.mp hp).2
  simp only [decide_eq_true_eq] at this
  rw [rowF, this]
theorem wait_step {hd : F4 → F4} {D : NatF} {i : Nat} (h : Conn hd (upTo D i)) : ((psL D i).filter fun p => !same hd p) = psL D (i + 1) := by
  rw [psL, psL, List.filter_filter]
  congr 1
  funext p
  rw [same, lev_same h, Bool.eq_iff_iff]
  simp only [Bool.and_eq_true, decide_eq_true_eq, Bool.not_eq_true', decide_eq_false_iff_not]
  omega
/-- the straits that fall dry at a level -/
theorem seg_eq {D : NatF} {ord : List F6} {i ma up : Nat} (hord : ∀ p, p ∈ ord) (h1 : ∀ j (h : j < ord.length), j < ma → D ord[j] < i) (h2 : ∀ j (h : j < ord.length), ma ≤ j → i ≤ D ord[j])
    (h3 : ∀ j (h : j < ord.length), j < up → D ord[j] ≤ i) (h4 : ∀ j (h : j < ord.length), up ≤ j → i < D ord[j]) : addL (below D i) ((ord.drop ma).take (up - ma)) = upTo D i := by
  funext q
  rw [Bool.eq_iff_iff]
  simp only [addL, below, upTo, Bool.or_eq_true, decide_eq_true_eq, List.contains_iff_mem]
  constructor
  · rintro (h | h)
    · omega
    · obtain ⟨j, hj, e⟩ := List.getElem_of_mem h
      have hl := hj
      rw [List.length_take, List.length_drop] at hl
      rw [List.getElem_take, List.getElem_drop] at e
      have := h3 (ma + j) (by omega) (by omega)
      rw [e] at this
      exact this
  · intro h
    obtain ⟨j, hj, e⟩ := List.getElem_of_mem (hord q)
    subst e
    by_cases hm : j < ma
    · exact .inl (h1 j hj hm)
    · by_cases hu : j < up
      · right
        have hl : j - ma < ((ord.drop ma).take (up - ma)).length := by rw [List.length_take, List.length_drop]; omega
        have e2 : ((ord.drop ma).take (up - ma))[j - ma] = ord[j] := by
          rw [List.getElem_take, List.getElem_drop]
          congr 1
          omega
        rw [← e2]
        exact List.getElem_mem _
      · have := h4 j hj (by omega)
        omega
end Mine
end
section
open PySem PySem.W PySem.Calls PyProof.Rows
namespace Mine
/-- what stands in the ledger and stays -/
structure Fx (w : World) (h₀ : Heap) (o1 o2 o3 o4 o5 : Obj) (kt : Tok) (sa da hl ol el : Addr) (dn ep ek : Nat) (vs : List Value) (e0 e1 e2 : Tok) (fx : List (Addr × Obj)) : Prop where
  c1 : (h₀.objs.size + 1, o1) ∈ fx
  c2 : (h₀.objs.size + 1 + 1, o2) ∈ fx
  c3 : (h₀.objs.size + 1 + 1 + 1, o3) ∈ fx
  c4 : (h₀.objs.size + 1 + 1 + 1 + 1, o4) ∈ fx
  c5 : (h₀.objs.size + 1 + 1 + 1 + 1 + 1, o5) ∈ fx
  sa : (sa, instObj 229 da) ∈ fx
  da : (da, headD w kt hl dn) ∈ fx
  ol : (ol, W.listOf vs.toArray ep) ∈ fx
  el : (el, W.listOf [Value.str (endS 0) e0, Value.str (endS 1) e1, Value.str (endS 2) e2].toArray ek) ∈ fx
theorem Fx.mono {w : World} {h₀ : Heap} {o1 o2 o3 o4 o5 : Obj} {kt : Tok} {sa da hl ol el : Addr} {dn ep ek : Nat} {vs : List Value} {e0 e1 e2 : Tok} {fx fx' : List (Addr × Obj)} (X : Fx w h₀ o1 o2 o3 o4 o5 kt sa da hl ol el dn ep ek vs e0 e1 e2 fx) (h : ∀ p ∈ fx, p ∈ fx') : Fx w h₀ o1 o2 o3 o4 o5 kt sa da hl ol el dn ep ek vs e0 e1 e2 fx' :=
  ⟨h _ X.c1, h _ X.c2, h _ X.c3, h _ X.c4, h _ X.c5, h _ X.sa, h _ X.da, h _ X.ol, h _ X.el⟩
noncomputable def lvN : List Str := [Str.ofString "level", Str.ofString "upto", Str.ofString "strait", Str.ofString "made", Str.ofString "heads", Str.ofString "parted", Str.ofString "waiting", Str.ofString "row", Str.ofString "apart"]
/-- the state between two levels, but for the ledger -/
structure Lv (w : World) (h₀ : Heap) (o1 o2 o3 o4 o5 : Obj) (kt : Tok) (sa da hl ol el hol : Addr) (dn ep ek : Nat) (vs : List Value) (e0 e1 e2 : Tok) (D : NatF) (ord : List F6) (i : Nat) (m : Str → Option Value) (fx : List (Addr × Obj))
   (rows : List Row) (hd : F4 → F4) (hv av : List Value) (ae : Nat) (al : Addr) (ma : Nat) (tm : Tok) (tp : Tok) : Prop where
  X : Fx w h₀ o1 o2 o3 o4 o5 kt sa da hl ol el dn ep ek vs e0 e1 e2 fx
  R : Mine.Rows fx vs (ord.map fun p => ((D p : Int), pairS p))
  hal : (al, W.listOf av.toArray ae) ∈ fx
  nhl : ∀ p ∈ fx, p.1 ≠ hl
  nho : ∀ p ∈ fx, p.1 ≠ hol
  G : Good rows hd
  hrows : ∀ r ∈ rows, (r.a, r.obj) ∈ fx
  conn : Conn hd (below D i)
  H : StrsAre hv (hsL D i)
  A : StrsAre av ((psL D i).map (rowS (i + 1)))
  hma : ma ≤ ord.length
  ma1 : ∀ j (h : j < ord.length), j < ma → D ord[j] < i
  ma2 : ∀ j (h : j < ord.length), ma ≤ j → i ≤ D ord[j]
  e_made : m (Str.ofString "made") = some (.int ma tm)
  e_parted : m (Str.ofString "parted") = some (.int (paL D i) tp)
  e_apart : m (Str.ofString "apart") = some (.ref al)
theorem step_seq {M : Model} {A : Around} {E : Value → Shared → Prop} {env : Env} {Q : Flow → Shared → Prop} {x : Stmt} {ys : List Stmt} {s : Shared}
    (h : wpAny M A (execs [x] env) (Cut (fun s' => wpAny M A (execs ys env) Q E s') Q) E s) : wpAny M A (execs (x :: ys) env) Q E s := execs_append (xs := [x]) h
theorem sub_c1 {P : Addr → Prop} {a : Addr × Obj} {r : List (Addr × Obj)} (h : P a.1) (h2 : ∀ p ∈ r, P p.1) : ∀ p ∈ a :: r, P p.1 := fun p hp => by
  rcases List.mem_cons.mp hp with rfl | hp
  · exact h
  · exact h2 p hp
theorem sub_cons' {P : Addr → Prop} {a : Addr × Obj} {r fx : List (Addr × Obj)} (h : ∀ p ∈ fx, P p.1) (ha : a ∈ fx) (h2 : ∀ p ∈ r, P p.1) : ∀ p ∈ a :: r, P p.1 := fun p hp => by
  rcases List.mem_cons.mp hp with rfl | hp
  · exact h _ ha
  · exact h2 p hp
theorem sub_cons {α : Type} {a : α} {r l : List α} (h : a ∈ l) (h2 : ∀ p ∈ r, p ∈ l) : ∀ p ∈ a :: r, p ∈ l := fun p hp => by
  rcases List.mem_cons.mp hp with rfl | hp
  · exact h
  · exact h2 p hp
set_option maxRecDepth 100000 in
set_option maxHeartbeats 0 in
theorem level_body {mean : ExcName → Option Value} {loose : List Str} {mg mb : Str → Option Value} (w : World) (h₀ : Heap) (fa : Addr) (cdv : Value) (m : Str → Option Value) (s : Shared) (Q : Flow → Shared → Prop) (E : Value → Shared → Prop)
   (KX : (KG w.params).In h₀) (T : Top VG loose mean mg mb h₀) (K0 : Below callerA h₀ [] h₀) (hE : PassesOwn (model PG w) (callerA.deeper (lawEnv h₀.objs.size fa cdv)) (lawEnv h₀.objs.size fa cdv) E)
   (o1 o2 o3 o4 o5 : Obj) (kt : Tok) (sa da hl ol el hol : Addr) (dn ep ek : Nat) (vs : List Value) (e0 e1 e2 : Tok) (D : NatF) (ord : List F6) (T0 : Int) (tt : Tok)
   (ho2 : o2.data = .cell (some (.ref sa))) (ho3 : o3.data = .cell (some (.ref hol))) (hol6 : ord.length = 6) (hord : ∀ p, p ∈ ord) (hD : ∀ p, D p < 5) (hsort : (ord.map fun p => ((D p : Int), pairS p)).Pairwise (fun a b => a.1 ≤ b.1)) (h1 : @LT.lt Nat _ hl da) (h2 : @LT.lt Nat _ da sa) (hhh : hl ≠ hol)
   (i : Nat) (hi : i < 5) (ti : Tok) (fx : List (Addr × Obj)) (rows : List Row) (hd : F4 → F4) (hv av : List Value) (pe oe ae : Nat) (al : Addr) (ma : Nat) (tm tp : Tok)
   (V : Lv w h₀ o1 o2 o3 o4 o5 kt sa da hl ol el hol dn ep ek vs e0 e1 e2 D ord i m fx rows hd hv av ae al ma tm tp)
   (e_level : m (Str.ofString "level") = some (.int i ti)) (e_order : m (Str.ofString "order") = some (.ref ol)) (e_ends : m (Str.ofString "ends") = some (.ref el)) (e_total : m (Str.ofString "total") = some (.int T0 tt))
   (F : Fr h₀ h₀.objs.size s.heap m) (N : News h₀ h₀.objs.size s.heap ((hl, W.listOf (refs rows).toArray pe) :: (hol, W.listOf (hv).toArray oe) :: fx))
   (done : ∀ h' tk m' ex rows' hd' hv' av' pe' oe' ae' al' ma' tm' tp', Lv w h₀ o1 o2 o3 o4 o5 kt sa da hl ol el hol dn ep ek vs e0 e1 e2 D ord (i + 1) m' (ex ++ fx) rows' hd' hv' av' ae' al' ma' tm' tp' → (∀ y, y ∉ lvN → m' y = m y) → (∀ p ∈ ex, ∀ q ∈ fx, p.1 ≠ q.1) → (al', W.listOf av'.toArray ae') ∈ ex → (∀ r ∈ rows', r ∈ rows ∨ (r.a, r.obj) ∈ ex) → Fr h₀ h₀.objs.size h' m' → News h₀ h₀.objs.size h' ((hl, W.listOf (refs rows').toArray pe') :: (hol, W.listOf (hv').toArray oe') :: (ex ++ fx)) → Q .next { s with heap := h', toks := tk }) :
   wpAny (model PG w) (callerA.deeper (lawEnv h₀.objs.size fa cdv)) (execs [lvAt 0, lvAt 1, lvAt 2, lvAt 3, lvAt 4, lvAt 5, lvAt 6, lvAt 7, lvAt 8] (lawEnv h₀.objs.size fa cdv)) Q E s := by
  obtain ⟨X, R, hal, nhl, nho, G, hrows, conn, hH, hA, hma, hma1, hma2, e_made, e_parted, e_apart⟩ := V
  -- upto
  refine step_seq (upto_step w h₀ fa cdv m s _ E KX T K0 hE o1 o2 o3 o4 o5 ol vs ep _ (i : Int) ti _ (by rw [List.length_map]; omega) (R.mono (fun p hp => .tail _ (.tail _ hp))) hsort e_order e_level F (News_cons N (.tail _ (.tail _ X.ol))) ?_)
  rintro s1 k1 m1 ⟨up, tu, e_upto, hup, hlo, hhi⟩ hk1 F1 N1
  rw [List.length_map] at hup
  have hlo' : ∀ j (h : j < ord.length), j < up → D ord[j] ≤ i := fun j h hj => by
    have := hlo j (by rw [List.length_map]; exact h) hj
    simp only [List.getElem_map] at this
    omega
  have hhi' : ∀ j (h : j < ord.length), up ≤ j → i < D ord[j] := fun j h hj => by
    have := hhi j (by rw [List.length_map]; exact h) hj
    simp only [List.getElem_map] at this
    omega
  have hmu : ma ≤ up := by
    rcases Nat.lt_or_ge up ma with h | h
    · have a := hma1 up (by omega) h
      have b := hhi' up (by omega) (Nat.le_refl _)
      omega
    · exact h
  clear F N
  show wpAny _ _ _ _ _ _
  -- join
  refine step_seq (join_loop w h₀ fa cdv m1 _ _ E KX T K0 hE o1 o2 o3 o4 o5 kt sa da hl ol dn pe ep rows hd vs (fun p => (D p : Int)) ord ma up tm tu ((hol, W.listOf hv.toArray oe) :: fx) ho2 (by omega) (R.mono (fun p hp => .tail _ hp)) hmu hup G (fun r hr => .tail _ (hrows r hr)) h1 h2 ?_ ((hk1 _ (by decide)).trans e_order) ((hk1 _ (by decide)).trans e_made) e_upto F1 (News_sub (News_tail N1) ?_) ?_)
  · refine sub_cons' (P := fun a => a ≠ hl) nhl X.ol (sub_cons' (P := fun a => a ≠ hl) nhl X.c5 (sub_cons' (P := fun a => a ≠ hl) nhl X.c4 (sub_cons' (P := fun a => a ≠ hl) nhl X.c3 (sub_cons' (P := fun a => a ≠ hl) nhl X.c2 (sub_cons' (P := fun a => a ≠ hl) nhl X.c1 (fun p hp => ?_))))))
    rcases List.mem_cons.mp hp with rfl | hp
    · exact fun e => hhh e.symm
    · exact nhl p hp
  · exact sub_cons (.tail _ (.tail _ (X.sa))) (sub_cons (.tail _ (.tail _ (X.da))) (sub_cons (.head _) (sub_cons (.tail _ (.tail _ (X.ol))) (sub_cons (.tail _ (.tail _ (X.c5))) (sub_cons (.tail _ (.tail _ (X.c4))) (sub_cons (.tail _ (.tail _ (X.c3))) (sub_cons (.tail _ (.tail _ (X.c2))) (sub_cons (.tail _ (.tail _ (X.c1))) (fun p hp => .tail _ hp)))))))))
  rintro s2 k2 m2 rows2 ex2 pe2 G2 hro2 hex2 hk2 F2 N2
  have hC2 : Conn (joinsH hd ((ord.drop ma).take (up - ma))) (upTo D i) := by
    rw [← seg_eq hord hma1 hma2 hlo' hhi']
    exact conn_joins _ conn
  have hexs : ∀ p ∈ ex2, ∀ q ∈ (hl, W.listOf (refs rows).toArray pe) :: (hol, W.listOf (hv).toArray oe) :: fx, @LT.lt Nat _ q.1 p.1 := fun p hp q hq => by
    rcases List.mem_cons.mp hq with rfl | hq
    · exact Nat.lt_trans (Nat.lt_trans h1 h2) (hex2 p hp).1
    · exact (hex2 p hp).2 q (.tail _ (.tail _ (.tail _ (.tail _ (.tail _ (.tail _ hq))))))
  generalize joinsH hd ((ord.drop ma).take (up - ma)) = hd2 at G2 hC2
  replace N2 : News h₀ h₀.objs.size s2 ((hl, W.listOf (refs rows2).toArray pe2) :: (hol, W.listOf (hv).toArray oe) :: (ex2 ++ fx)) := News_sub N2 (sub_cons (.tail _ (.tail _ (.head _))) (sub_cons (.tail _ (.tail _ (.tail _ (List.mem_append_right _ (.tail _ (.tail _ (.tail _ (.tail _ (.tail _ (.tail _ (.head _))))))))))) (fun p hp => by
    rcases List.mem_append.mp hp with hp | hp
    · exact .tail _ (.tail _ (.tail _ (List.mem_append_left _ hp)))
    · exact .tail _ (.tail _ (.tail _ (List.mem_append_right _ (.tail _ (.tail _ (.tail _ (.tail _ (.tail _ (.tail _ (.tail _ (hp))))))))))))))
  clear F1 N1 hex2
  have up2 : ∀ p ∈ fx, p ∈ ex2 ++ fx := fun p hp => List.mem_append_right _ hp
  have X2 := X.mono up2
  have nhl2 : ∀ p ∈ ex2 ++ fx, p.1 ≠ hl := fun p hp => by
    rcases List.mem_append.mp hp with hp | hp
    · exact Nat.ne_of_gt (hexs p hp _ (.head _))
    · exact nhl p hp
  have nho2 : ∀ p ∈ ex2 ++ fx, p.1 ≠ hol := fun p hp => by
    rcases List.mem_append.mp hp with hp | hp
    · exact Nat.ne_of_gt (hexs p hp _ (.tail _ (.head _)))
    · exact nho p hp
  have exd2 : ∀ p ∈ ex2, ∀ q ∈ fx, p.1 ≠ q.1 := fun p hp q hq => Nat.ne_of_gt (hexs p hp q (.tail _ (.tail _ hq)))
  have hr2 : ∀ r ∈ rows2, (r.a, r.obj) ∈ ex2 ++ fx := fun r hr => (hro2 r hr).elim (fun h => List.mem_append_right _ (hrows r h)) (fun h => List.mem_append_left _ h)
  show wpAny _ _ _ _ _ _
  -- made
  refine step_seq (made_step w h₀ fa cdv m2 _ _ E KX T K0 hE (up : Int) tu _ ((hk2 _ (by decide)).trans e_upto) F2 N2 ?_)
  rintro s3 k3 m3 e_made3 hk3 F3 N3
  clear F2 N2
  show wpAny _ _ _ _ _ _
  -- heads
  refine step_seq (heads_step w h₀ fa cdv m3 _ _ E KX T K0 hE o1 o2 o3 o4 o5 kt sa da hl dn pe2 rows2 hd2 ((hol, W.listOf hv.toArray oe) :: (ex2 ++ fx)) ho2 G2 (fun r hr => .tail _ (hr2 r hr)) F3 (News_sub N3 ?_) ?_)
  · exact sub_cons (.tail _ (.tail _ (X2.sa))) (sub_cons (.tail _ (.tail _ (X2.da))) (sub_cons (.head _) (sub_cons (.tail _ (.tail _ (X2.c5))) (sub_cons (.tail _ (.tail _ (X2.c4))) (sub_cons (.tail _ (.tail _ (X2.c3))) (sub_cons (.tail _ (.tail _ (X2.c2))) (sub_cons (.tail _ (.tail _ (X2.c1))) (fun p hp => .tail _ hp))))))))
  rintro s4 k4 m4 hdl hu hk e_heads hk4 hdd F4 N4
  replace hdd : ∀ p ∈ (hl, W.listOf (refs rows2).toArray pe2) :: (hol, W.listOf (hv).toArray oe) :: (ex2 ++ fx), p.1 ≠ hdl := fun p hp => by
    rcases List.mem_cons.mp hp with rfl | hp
    · exact hdd _ (.tail _ (.tail _ (.head _)))
    · exact hdd _ (.tail _ (.tail _ (.tail _ (.tail _ (.tail _ (.tail _ (.tail _ (.tail _ hp))))))))
  replace N4 : News h₀ h₀.objs.size s4 ((hdl, W.listOf (headsV hd2 hu).toArray hk) :: (hl, W.listOf (refs rows2).toArray pe2) :: (hol, W.listOf (hv).toArray oe) :: (ex2 ++ fx)) := News_sub N4 (sub_cons (.head _) (sub_cons (.tail _ (.tail _ (.tail _ (.head _)))) (fun p hp => .tail _ (.tail _ (.tail _ (.tail _ (.tail _ (.tail _ (.tail _ (.tail _ (.tail _ hp)))))))))))
  clear F3 N3
  show wpAny _ _ _ _ _ _
  -- parted
  have hpb := paL_bd D i
  refine step_seq (parted_step w h₀ fa cdv m4 _ _ E KX T K0 hE hdl hd2 hu hk (paL D i) tp _ hpb.1 (by omega) e_heads ((hk4 _ (by decide)).trans ((hk3 _ (by decide)).trans ((hk2 _ (by decide)).trans ((hk1 _ (by decide)).trans e_parted)))) F4 N4 ?_)
  rintro s5 k5 m5 ⟨tp5, e_parted5⟩ hk5 F5 N5
  rw [cnt_cls hC2] at e_parted5
  clear F4 N4
  show wpAny _ _ _ _ _ _
  -- waiting
  refine step_seq (waiting_step w h₀ fa cdv m5 _ _ E KX T K0 hE _ F5 N5 ?_)
  rintro s6 k6 m6 wl e_waiting hk6 hwl F6 N6
  clear F5 N5
  show wpAny _ _ _ _ _ _
  -- rows
  refine step_seq (rows_loop w h₀ fa cdv m6 _ _ E KX T K0 hE o1 o2 o3 o4 o5 hdl al wl hol hd2 hv av hk ae 0 oe (psL D i) (hsL D i) (i + 1) (by omega) hu ((hl, W.listOf (refs rows2).toArray pe2) :: (ex2 ++ fx)) ho3 hA hH (psL_len D i) (hsL_len D i) ?_ ?_ ((hk6 _ (by decide)).trans ((hk5 _ (by decide)).trans e_heads)) ((hk6 _ (by decide)).trans ((hk5 _ (by decide)).trans ((hk4 _ (by decide)).trans ((hk3 _ (by decide)).trans ((hk2 _ (by decide)).trans ((hk1 _ (by decide)).trans e_apart)))))) e_waiting F6 (News_sub N6 ?_) ?_)
  · have mem : ∀ p ∈ (hol, W.listOf hv.toArray oe) :: (al, W.listOf av.toArray ae) :: (hdl, W.listOf (headsV hd2 hu).toArray hk) :: (h₀.objs.size + 1 + 1 + 1 + 1 + 1, o5) :: (h₀.objs.size + 1 + 1 + 1 + 1, o4) :: (h₀.objs.size + 1 + 1 + 1, o3) :: (h₀.objs.size + 1 + 1, o2) :: (h₀.objs.size + 1, o1) :: (hl, W.listOf (refs rows2).toArray pe2) :: (ex2 ++ fx), p ∈ (hdl, W.listOf (headsV hd2 hu).toArray hk) :: (hl, W.listOf (refs rows2).toArray pe2) :: (hol, W.listOf (hv).toArray oe) :: (ex2 ++ fx) :=
      sub_cons (.tail _ (.tail _ (.head _))) (sub_cons (.tail _ (.tail _ (.tail _ (up2 _ hal)))) (sub_cons (.head _) (sub_cons (.tail _ (.tail _ (.tail _ (X2.c5)))) (sub_cons (.tail _ (.tail _ (.tail _ (X2.c4)))) (sub_cons (.tail _ (.tail _ (.tail _ (X2.c3)))) (sub_cons (.tail _ (.tail _ (.tail _ (X2.c2)))) (sub_cons (.tail _ (.tail _ (.tail _ (X2.c1)))) (sub_cons (.tail _ (.head _)) (fun p hp => .tail _ (.tail _ (.tail _ hp)))))))))))
    exact fun p hp => Nat.ne_of_lt (hwl p (mem p hp))
  · have mem : ∀ p ∈ (al, W.listOf av.toArray ae) :: (hdl, W.listOf (headsV hd2 hu).toArray hk) :: (h₀.objs.size + 1 + 1 + 1 + 1 + 1, o5) :: (h₀.objs.size + 1 + 1 + 1 + 1, o4) :: (h₀.objs.size + 1 + 1 + 1, o3) :: (h₀.objs.size + 1 + 1, o2) :: (h₀.objs.size + 1, o1) :: (hl, W.listOf (refs rows2).toArray pe2) :: (ex2 ++ fx), p.1 ≠ hol := by
      exact sub_cons' (P := fun a => a ≠ hol) nho2 (up2 _ hal) (sub_c1 (P := fun a => a ≠ hol) (fun e => hdd _ (.tail _ (.head _)) e.symm) (sub_cons' (P := fun a => a ≠ hol) nho2 X2.c5 (sub_cons' (P := fun a => a ≠ hol) nho2 X2.c4 (sub_cons' (P := fun a => a ≠ hol) nho2 X2.c3 (sub_cons' (P := fun a => a ≠ hol) nho2 X2.c2 (sub_cons' (P := fun a => a ≠ hol) nho2 X2.c1 (sub_c1 (P := fun a => a ≠ hol) hhh nho2)))))))
    intro p hp
    rcases List.mem_cons.mp hp with rfl | hp
    · exact Nat.ne_of_gt (hwl _ (.tail _ (.tail _ (.head _))))
    · exact mem p hp
  · exact sub_cons (.head _) (sub_cons (.tail _ (.tail _ (.tail _ (.head _)))) (sub_cons (.tail _ (.tail _ (.tail _ (.tail _ (up2 _ hal))))) (sub_cons (.tail _ (.head _)) (sub_cons (.tail _ (.tail _ (.tail _ (.tail _ (X2.c5))))) (sub_cons (.tail _ (.tail _ (.tail _ (.tail _ (X2.c4))))) (sub_cons (.tail _ (.tail _ (.tail _ (.tail _ (X2.c3))))) (sub_cons (.tail _ (.tail _ (.tail _ (.tail _ (X2.c2))))) (sub_cons (.tail _ (.tail _ (.tail _ (.tail _ (X2.c1))))) (sub_cons (.tail _ (.tail _ (.head _))) (fun p hp => .tail _ (.tail _ (.tail _ (.tail _ hp)))))))))))))
  rintro s7 k7 m7 wv we hv7 oe7 hH7 hW7 hk7 F7 N7
  rw [List.take_length, home_step hC2] at hH7
  rw [List.take_length, wait_step hC2] at hW7
  replace N7 : News h₀ h₀.objs.size s7 ((wl, W.listOf wv.toArray we) :: (hdl, W.listOf (headsV hd2 hu).toArray hk) :: (hl, W.listOf (refs rows2).toArray pe2) :: (hol, W.listOf (hv7).toArray oe7) :: (ex2 ++ fx)) := News_sub N7 (sub_cons (.head _) (sub_cons (.tail _ (.tail _ (.tail _ (.head _)))) (sub_cons (.tail _ (.tail _ (.tail _ (.tail _ (.tail _ (.tail _ (.tail _ (.tail _ (.tail _ (.head _)))))))))) (sub_cons (.tail _ (.head _)) (fun p hp => .tail _ (.tail _ (.tail _ (.tail _ (.tail _ (.tail _ (.tail _ (.tail _ (.tail _ (.tail _ hp))))))))))))))
  clear F6 N6
  show wpAny _ _ _ _ _ _
  -- apart
  refine step_seq (apart_step w h₀ fa cdv m7 _ _ E KX T K0 hE _ F7 N7 ?_)
  rintro s8 k8 m8 apl e_apart8 hk8 hapl F8 N8
  clear F7 N7
  show wpAny _ _ _ _ _ _
  -- quote
  refine step_seq (quote_step w h₀ fa cdv m8 _ _ E KX T K0 hE wl el apl wv we ek e0 e1 e2 T0 tt ti i hi (psL D (i + 1)) (psL_len D _) (i + 1) (by omega) (by omega) hW7 ((apl, W.listOf ([] : List Value).toArray 0) :: (hdl, W.listOf (headsV hd2 hu).toArray hk) :: (hl, W.listOf (refs rows2).toArray pe2) :: (hol, W.listOf (hv7).toArray oe7) :: (ex2 ++ fx)) ((hk8 _ (by decide)).trans ((hk7 _ (by decide)).trans e_waiting)) ?_ ?_ ?_ e_apart8 F8 (News_sub N8 ?_) ?_)
  · exact (hk8 _ (by decide)).trans ((hk7 _ (by decide)).trans ((hk6 _ (by decide)).trans ((hk5 _ (by decide)).trans ((hk4 _ (by decide)).trans ((hk3 _ (by decide)).trans ((hk2 _ (by decide)).trans ((hk1 _ (by decide)).trans e_ends)))))))
  · exact (hk8 _ (by decide)).trans ((hk7 _ (by decide)).trans ((hk6 _ (by decide)).trans ((hk5 _ (by decide)).trans ((hk4 _ (by decide)).trans ((hk3 _ (by decide)).trans ((hk2 _ (by decide)).trans ((hk1 _ (by decide)).trans e_total)))))))
  · exact (hk8 _ (by decide)).trans ((hk7 _ (by decide)).trans ((hk6 _ (by decide)).trans ((hk5 _ (by decide)).trans ((hk4 _ (by decide)).trans ((hk3 _ (by decide)).trans ((hk2 _ (by decide)).trans ((hk1 _ (by decide)).trans e_level)))))))
  · exact sub_cons (.tail _ (.head _)) (sub_cons (.tail _ (.tail _ (.tail _ (.tail _ (.tail _ X2.el))))) (sub_cons (.head _) (fun p hp => .tail _ (.tail _ hp))))
  rintro s9 k9 m9 nw9 ⟨al9, av9, ae9, e_apart9, hk9, hA9, hnw⟩ F9 N9
  clear F8 N8
  show wpAny _ _ _ _ _ _
  refine wpAny_execs_nil ?_
  have hkk : ∀ y, y ∉ lvN → m9 y = m y := fun y hy => by
    simp only [lvN, List.mem_cons, List.not_mem_nil, or_false, not_or] at hy
    obtain ⟨n1, n2, n3, n4, n5, n6, n7, n8, n9⟩ := hy
    rw [hk9 y n9, hk8 y n9, hk7 y n8, hk6 y n7, hk5 y n6, hk4 y n5, hk3 y n4, hk2 y n3, hk1 y n2]
  have e_made9 : m9 (Str.ofString "made") = some (.int up tu) := by
    rw [hk9 _ (by decide), hk8 _ (by decide), hk7 _ (by decide), hk6 _ (by decide), hk5 _ (by decide), hk4 _ (by decide)]
    exact e_made3
  have e_parted9 : m9 (Str.ofString "parted") = some (.int (paL D (i + 1)) tp5) := by
    rw [hk9 _ (by decide), hk8 _ (by decide), hk7 _ (by decide), hk6 _ (by decide)]
    exact e_parted5
  have nwl : ∀ q ∈ fx, wl ≠ q.1 := fun q hq => Nat.ne_of_gt (hwl q (.tail _ (.tail _ (.tail _ (up2 q hq)))))
  have ndl : ∀ q ∈ fx, hdl ≠ q.1 := fun q hq e => hdd q (.tail _ (.tail _ (up2 q hq))) e.symm
  have napl : ∀ q ∈ fx, apl ≠ q.1 := fun q hq => Nat.ne_of_gt (hapl q (.tail _ (.tail _ (.tail _ (.tail _ (up2 q hq))))))
  have hdlhl : hdl ≠ hl := fun e => hdd _ (.head _) e.symm
  have hdlho : hdl ≠ hol := fun e => hdd _ (.tail _ (.head _)) e.symm
  have aplhl : apl ≠ hl := Nat.ne_of_gt (hapl _ (.tail _ (.tail _ (.head _))))
  have aplho : apl ≠ hol := Nat.ne_of_gt (hapl _ (.tail _ (.tail _ (.tail _ (.head _)))))
  rcases hnw with ⟨rfl, rfl, rfl⟩ | ⟨rfl, hal9⟩
  · refine done s9 k9 m9 ((al9, W.listOf ([] : List Value).toArray 0) :: (hdl, W.listOf (headsV hd2 hu).toArray hk) :: ex2) rows2 hd2 hv7 [] pe2 oe7 0 al9 up tu tp5 ⟨X2.mono ?_, R.mono ?_, .head _, ?_, ?_, G2, ?_, ?_, hH7, hA9, hup, ?_, ?_, e_made9, e_parted9, e_apart9⟩ hkk ?_ (.head _) (fun r hr => (hro2 r hr).imp id fun h => .tail _ (.tail _ h)) F9 (News_sub N9 ?_)
    · exact fun p hp => .tail _ (.tail _ hp)
    · exact fun p hp => .tail _ (.tail _ (up2 p hp))
    · exact sub_c1 (P := fun a => a ≠ hl) aplhl (sub_c1 (P := fun a => a ≠ hl) hdlhl nhl2)
    · exact sub_c1 (P := fun a => a ≠ hol) aplho (sub_c1 (P := fun a => a ≠ hol) hdlho nho2)
    · exact fun r hr => .tail _ (.tail _ (hr2 r hr))
    · rw [below_succ]; exact hC2
    · exact fun j h hj => Nat.lt_succ_of_le (hlo' j h hj)
    · exact hhi'
    · exact sub_c1 (P := fun a => ∀ q ∈ fx, a ≠ q.1) napl (sub_c1 (P := fun a => ∀ q ∈ fx, a ≠ q.1) ndl exd2)
    · exact sub_cons (.tail _ (.tail _ (.tail _ (.tail _ (.head _))))) (sub_cons (.tail _ (.tail _ (.tail _ (.tail _ (.tail _ (.head _)))))) (sub_cons (.tail _ (.tail _ (.head _))) (sub_cons (.tail _ (.tail _ (.tail _ (.head _)))) (fun p hp => .tail _ (.tail _ (.tail _ (.tail _ (.tail _ (.tail _ (hp))))))))))
  · have al9hl : al9 ≠ hl := Nat.ne_of_gt (hal9 _ (.tail _ (.tail _ (.tail _ (.tail _ (.head _))))))
    have al9ho : al9 ≠ hol := Nat.ne_of_gt (hal9 _ (.tail _ (.tail _ (.tail _ (.tail _ (.tail _ (.head _)))))))
    have nal9 : ∀ q ∈ fx, al9 ≠ q.1 := fun q hq => Nat.ne_of_gt (hal9 q (.tail _ (.tail _ (.tail _ (.tail _ (.tail _ (.tail _ (up2 q hq))))))))
    refine done s9 k9 m9 ((al9, W.listOf av9.toArray ae9) :: (hdl, W.listOf (headsV hd2 hu).toArray hk) :: ex2) rows2 hd2 hv7 av9 pe2 oe7 ae9 al9 up tu tp5 ⟨X2.mono ?_, R.mono ?_, .head _, ?_, ?_, G2, ?_, ?_, hH7, hA9, hup, ?_, ?_, e_made9, e_parted9, e_apart9⟩ hkk ?_ (.head _) (fun r hr => (hro2 r hr).imp id fun h => .tail _ (.tail _ h)) F9 (News_sub N9 ?_)
    · exact fun p hp => .tail _ (.tail _ hp)
    · exact fun p hp => .tail _ (.tail _ (up2 p hp))
    · exact sub_c1 (P := fun a => a ≠ hl) al9hl (sub_c1 (P := fun a => a ≠ hl) hdlhl nhl2)
    · exact sub_c1 (P := fun a => a ≠ hol) al9ho (sub_c1 (P := fun a => a ≠ hol) hdlho nho2)
    · exact fun r hr => .tail _ (.tail _ (hr2 r hr))
    · rw [below_succ]; exact hC2
    · exact fun j h hj => Nat.lt_succ_of_le (hlo' j h hj)
    · exact hhi'
    · exact sub_c1 (P := fun a => ∀ q ∈ fx, a ≠ q.1) nal9 (sub_c1 (P := fun a => ∀ q ∈ fx, a ≠ q.1) ndl exd2)
    · exact sub_cons (.tail _ (.tail _ (.tail _ (.tail _ (.tail _ (.head _)))))) (sub_cons (.tail _ (.tail _ (.tail _ (.tail _ (.tail _ (.tail _ (.head _))))))) (sub_cons (.head _) (sub_cons (.tail _ (.tail _ (.tail _ (.tail _ (.head _))))) (fun p hp => .tail _ (.tail _ (.tail _ (.tail _ (.tail _ (.tail _ (.tail _ (hp)))))))))))
end Mine
end
section
open PySem PySem.W PySem.Calls PyProof.Rows
namespace Mine
local macro_rules | `(tactic| walk_at "one more line") => `(tactic| skip)
theorem fillLv2 : (PySem.Challenge.rw_ty0055_01, Mine.hd.heap_1) = (PySem.Challenge.rw_ty0055_01, Mine.hd.heap_1) := by
  k_fill
  rfl

local macro_rules | `(tactic| walk_at "exec For Name Call cons nil") => `(tactic| ((with_reducible show wpAny _ _ (exec (Stmt.For _ _ _ _ _) _) _ _ _); refine halt ?_))
local macro_rules | `(tactic| walk_at "execs cons") => `(tactic| ((with_reducible show wpAny _ _ (execs (_ :: _ :: _ :: _) _) _ _ _); refine halt ?_))
theorem body13 : ∃ x it pos, lawAt 13 = .For (.Name (Str.ofString "level") x) it [lvAt 0, lvAt 1, lvAt 2, lvAt 3, lvAt 4, lvAt 5, lvAt 6, lvAt 7, lvAt 8] [] pos := ⟨_, _, _, rfl⟩
set_option maxRecDepth 100000 in
set_option maxHeartbeats 0 in
set_option pp.maxSteps 100000 in
theorem level_loop {mean : ExcName → Option Value} {loose : List Str} {mg mb : Str → Option Value} (w : World) (h₀ : Heap) (fa : Addr) (cdv : Value) (m : Str → Option Value) (s : Shared) (Q : Flow → Shared → Prop) (E : Value → Shared → Prop)
   (KX : (KG w.params).In h₀) (T : Top VG loose mean mg mb h₀) (K0 : Below callerA h₀ [] h₀) (hE : PassesOwn (model PG w) (callerA.deeper (lawEnv h₀.objs.size fa cdv)) (lawEnv h₀.objs.size fa cdv) E)
   (o1 o2 o3 o4 o5 : Obj) (kt : Tok) (sa da hl ol el hol : Addr) (dn ep ek : Nat) (vs : List Value) (e0 e1 e2 : Tok) (D : NatF) (ord : List F6) (T0 : Int) (tt : Tok)
   (ho2 : o2.data = .cell (some (.ref sa))) (ho3 : o3.data = .cell (some (.ref hol))) (hol6 : ord.length = 6) (hord : ∀ p, p ∈ ord) (hD : ∀ p, D p < 5) (hsort : (ord.map fun p => ((D p : Int), pairS p)).Pairwise (fun a b => a.1 ≤ b.1)) (h1 : @LT.lt Nat _ hl da) (h2 : @LT.lt Nat _ da sa) (hhh : hl ≠ hol)
   (fx : List (Addr × Obj)) (rows : List Row) (hd : F4 → F4) (hv av : List Value) (pe oe ae : Nat) (al : Addr) (ma : Nat) (tm tp : Tok)
   (V : Lv w h₀ o1 o2 o3 o4 o5 kt sa da hl ol el hol dn ep ek vs e0 e1 e2 D ord 0 m fx rows hd hv av ae al ma tm tp)
    (e_order : m (Str.ofString "order") = some (.ref ol)) (e_ends : m (Str.ofString "ends") = some (.ref el)) (e_total : m (Str.ofString "total") = some (.int T0 tt))
   (F : Fr h₀ h₀.objs.size s.heap m)
   (N : News h₀ h₀.objs.size s.heap ((hl, W.listOf (refs rows).toArray pe) :: (hol, W.listOf (hv).toArray oe) :: fx))
   (done : ∀ h' tk m' ex rows' hd' hv' av' pe' oe' ae' al' ma' tm' tp', (Lv w h₀ o1 o2 o3 o4 o5 kt sa da hl ol el hol dn ep ek vs e0 e1 e2 D ord 5 m' (ex ++ fx) rows' hd' hv' av' ae' al' ma' tm' tp') → ((∀ y, y ∉ lvN → m' y = m y)) → Fr h₀ h₀.objs.size h' m' → News h₀ h₀.objs.size h' ((hl, W.listOf (refs rows').toArray pe') :: (hol, W.listOf (hv').toArray oe') :: (ex ++ fx)) → Q .next { s with heap := h', toks := tk }) :
   wpAny (model PG w) (callerA.deeper (lawEnv h₀.objs.size fa cdv)) (execs ([lawAt 13]) (lawEnv h₀.objs.size fa cdv)) Q E s := by
  w_on
  --(Str.ofString "order"), .ref ol), ((Str.ofString "ends"), .ref el), ((Str.ofString "total"), .int T0 tt)] (kn1 e_order (kn1 e_ends (kn1 e_total kn0)))
  dsimp only [lawEnv, PG, KG, VG, S] at *
  conv in (occs := *) lawScope => all_goals whnf
  conv in (lawAt _) => whnf
  k_steps
  refine go ?_
  refine For_src F (by intro _; with_unfolding_all rfl) hE ?_
  k_steps
  rename IsRange _ _ _ _ _ _ _ _ => HR
  rename Fr _ _ _ _ => F2
  rename News _ _ _ _ => N2
  refine SrcLoop.mk [] 5 _ _ _ (fun i m₁ nw => ∃ ex rows' hd' hv' av' pe' oe' ae' al' ma' tm' tp', Lv w h₀ o1 o2 o3 o4 o5 kt sa da hl ol el hol dn ep ek vs e0 e1 e2 D ord i m₁ (ex ++ fx) rows' hd' hv' av' ae' al' ma' tm' tp' ∧ (∀ y, y ∉ lvN → m₁ y = m y) ∧ nw = (hl, W.listOf (refs rows').toArray pe') :: (hol, W.listOf (hv').toArray oe') :: (ex ++ fx)) (SrcAt.range (by rfl) HR rfl rfl) (fun _ _ _ _ _ h => (nomatch h)) F2 N2 ⟨[], rows, hd, hv, av, pe, oe, ae, al, ma, tm, tp, V, fun _ _ => rfl, rfl⟩ ?_ ?_
  · clear HR F2 N2
    rintro i v m₁ nw h tk I o hi ⟨ti, rfl⟩ ⟨ex, rows', hd', hv', av', pe', oe', ae', al', ma', tm', tp', V', hm, rfl⟩ hI F N
    change Fr h₀ h₀.objs.size h m₁ at F
    change News h₀ h₀.objs.size h _ at N
    k_steps
    rename Fr _ _ _ _ => F2
    rename News _ _ _ _ => N2
    refine go ?_
    have V2 : Lv w h₀ o1 o2 o3 o4 o5 kt sa da hl ol el hol dn ep ek vs e0 e1 e2 D ord i (fun y => if y = Str.ofString "level" then some (.int (0 + (i : Int)) ti) else m₁ y) ((I, o) :: (ex ++ fx)) rows' hd' hv' av' ae' al' ma' tm' tp' := by
      obtain ⟨X, R, hal, nhl, nho, G, hrows, conn, hH, hA, hma, hma1, hma2, e1, e2, e3⟩ := V'
      exact ⟨X.mono fun p hp => .tail _ hp, R.mono fun p hp => .tail _ hp, .tail _ hal, sub_c1 (P := fun a => a ≠ hl) (fun e => hI _ (.head _) e.symm) nhl, sub_c1 (P := fun a => a ≠ hol) (fun e => hI _ (.tail _ (.head _)) e.symm) nho, G, fun r hr => .tail _ (hrows r hr), conn, hH, hA, hma, hma1, hma2, (if_neg (by decide)).trans e1, (if_neg (by decide)).trans e2, (if_neg (by decide)).trans e3⟩
    refine level_body w h₀ fa cdv _ _ _ E KX T K0 hE o1 o2 o3 o4 o5 kt sa da hl ol el hol dn ep ek vs e0 e1 e2 D ord T0 tt ho2 ho3 hol6 hord hD hsort h1 h2 hhh i hi ti ((I, o) :: (ex ++ fx)) rows' hd' hv' av' pe' oe' ae' al' ma' tm' tp' V2 ?_ ?_ ?_ ?_ F2 (News_sub N2 ?_) ?_
    · show (if _ then _ else _) = _
      rw [if_pos rfl, Int.zero_add]
    · exact (if_neg (by decide)).trans ((hm _ (by decide)).trans e_order)
    · exact (if_neg (by decide)).trans ((hm _ (by decide)).trans e_ends)
    · exact (if_neg (by decide)).trans ((hm _ (by decide)).trans e_total)
    · exact sub_cons (.tail _ (.head _)) (sub_cons (.tail _ (.tail _ (.head _))) (sub_cons (.head _) fun p hp => .tail _ (.tail _ (.tail _ hp))))
    rintro h3 k3 m3 ex3 rows3 hd3 hv3 av3 pe3 oe3 ae3 al3 ma3 tm3 tp3 V3 hm3 hex3 hal3 hro3 F3 N3
    refine TurnU.intro F3 (nw := (hl, W.listOf (refs rows3).toArray pe3) :: (hol, W.listOf (hv3).toArray oe3) :: ((ex3 ++ ex) ++ fx)) (News_sub N3 ?_) ?_ ⟨ex3 ++ ex, rows3, hd3, hv3, av3, pe3, oe3, ae3, al3, ma3, tm3, tp3, ?_, ?_, rfl⟩
    · refine sub_cons (.tail _ (.tail _ (List.mem_append_right _ (.head _)))) (sub_cons (.head _) (sub_cons (.tail _ (.head _)) fun p hp => ?_))
      rw [List.append_assoc] at hp
      rcases List.mem_append.mp hp with hp | hp
      · exact .tail _ (.tail _ (List.mem_append_left _ hp))
      · exact .tail _ (.tail _ (List.mem_append_right _ (.tail _ hp)))
    · refine sub_c1 (P := fun a => a ≠ I) (hI (hl, W.listOf (refs rows').toArray pe') (.head _)) (sub_c1 (P := fun a => a ≠ I) (hI (hol, W.listOf hv'.toArray oe') (.tail _ (.head _))) fun p hp => ?_)
      rw [List.append_assoc] at hp
      rcases List.mem_append.mp hp with hp | hp
      · exact hex3 p hp (I, o) (.head _)
      · exact hI p (.tail _ (.tail _ hp))
    · have up : ∀ p ∈ ex ++ fx, p ∈ (ex3 ++ ex) ++ fx := fun p hp => by
        rw [List.append_assoc]; exact List.mem_append_right _ hp
      have dn' : ∀ p ∈ (ex3 ++ ex) ++ fx, p ∈ ex3 ++ ((I, o) :: (ex ++ fx)) := fun p hp => by
        rw [List.append_assoc] at hp
        rcases List.mem_append.mp hp with hp | hp
        · exact List.mem_append_left _ hp
        · exact List.mem_append_right _ (.tail _ hp)
      refine ⟨V'.X.mono up, V'.R.mono up, List.mem_append_left _ (List.mem_append_left _ hal3), fun p hp => V3.nhl p (dn' p hp), fun p hp => V3.nho p (dn' p hp), V3.G, fun r hr => ?_, V3.conn, V3.H, V3.A, V3.hma, V3.ma1, V3.ma2, V3.e_made, V3.e_parted, V3.e_apart⟩
      rcases hro3 r hr with h | h
      · exact up _ (V'.hrows r h)
      · exact List.mem_append_left _ (List.mem_append_left _ h)
    · intro y hy
      rw [hm3 y hy, if_neg (fun e => hy (by rw [e]; exact .head _))]
      exact hm y hy
  · clear HR F2 N2
    rintro h' tk m' nw F4 N4 ⟨ex, rows', hd', hv', av', pe', oe', ae', al', ma', tm', tp', hp0, hp1, rfl⟩
    k_steps
    exact done _ _ _ ex rows' hd' hv' av' pe' oe' ae' al' ma' tm' tp' hp0 hp1 F4 N4
end Mine
end
section
open PySem PySem.W PySem.Calls PyProof.Rows
namespace Mine
theorem fillS9 : (PySem.Challenge.rw_ty0055_01, Mine.hd.heap_1) = (PySem.Challenge.rw_ty0055_01, Mine.hd.heap_1) := by
  k_fill
  rfl

local macro_rules | `(tactic| walk_at "exec Assign cons ListComp") => `(tactic| (refine halt ?_))
local macro_rules | `(tactic| walk_at "binaryOp Add str str") => `(tactic| (refine halt ?_))
theorem pairs_lit : Str.ofString "ab" = pairS 0 ∧ Str.ofString "ac" = pairS 1 ∧ Str.ofString "ad" = pairS 2 ∧ Str.ofString "bc" = pairS 3 ∧ Str.ofString "bd" = pairS 4 ∧ Str.ofString "cd" = pairS 5 := by decide +kernel
noncomputable def pairsV (pu : F6 → Tok) : List Value := [.str (pairS 0) (pu 0), .str (pairS 1) (pu 1), .str (pairS 2) (pu 2), .str (pairS 3) (pu 3), .str (pairS 4) (pu 4), .str (pairS 5) (pu 5)]
theorem pairs_at (pu : F6 → Tok) (p : F6) : (pairsV pu)[p.val]? = some (.str (pairS p) (pu p)) := by
  match p with
  | 0 => rfl
  | 1 => rfl
  | 2 => rfl
  | 3 => rfl
  | 4 => rfl
  | 5 => rfl
theorem pairs_get {pu : F6 → Tok} {i : Nat} {v : Value} (h : (pairsV pu)[i]? = some v) : ∃ p : F6, allP[i]? = some p ∧ p.val = i ∧ v = .str (pairS p) (pu p) := by
  match i, h with
  | 0, h => exact ⟨0, rfl, rfl, by cases h; rfl⟩
  | 1, h => exact ⟨1, rfl, rfl, by cases h; rfl⟩
  | 2, h => exact ⟨2, rfl, rfl, by cases h; rfl⟩
  | 3, h => exact ⟨3, rfl, rfl, by cases h; rfl⟩
  | 4, h => exact ⟨4, rfl, rfl, by cases h; rfl⟩
  | 5, h => exact ⟨5, rfl, rfl, by cases h; rfl⟩
  | i + 6, h => simp [pairsV] at h
set_option maxRecDepth 100000 in
set_option maxHeartbeats 0 in
set_option pp.maxSteps 100000 in
theorem apart0_step {mean : ExcName → Option Value} {loose : List Str} {mg mb : Str → Option Value} (w : World) (h₀ : Heap) (fa : Addr) (cdv : Value) (m : Str → Option Value) (s : Shared) (Q : Flow → Shared → Prop) (E : Value → Shared → Prop)
   (KX : (KG w.params).In h₀) (T : Top VG loose mean mg mb h₀) (K0 : Below callerA h₀ [] h₀) (hE : PassesOwn (model PG w) (callerA.deeper (lawEnv h₀.objs.size fa cdv)) (lawEnv h₀.objs.size fa cdv) E)
   (o1 o2 o3 o4 o5 : Obj) (pl : Addr) (pu : F6 → Tok) (pk : Nat) (rest : List (Addr × Obj)) (ho1 : o1.data = .cell (some (.ref pl)))
   
   (F : Fr h₀ h₀.objs.size s.heap m)
   (N : News h₀ h₀.objs.size s.heap ((pl, W.listOf (pairsV pu).toArray pk) :: (h₀.objs.size + 1 + 1 + 1 + 1 + 1, o5) :: (h₀.objs.size + 1 + 1 + 1 + 1, o4) :: (h₀.objs.size + 1 + 1 + 1, o3) :: (h₀.objs.size + 1 + 1, o2) :: (h₀.objs.size + 1, o1) :: rest))
   (done : ∀ h' tk m' D av ae, (m' (Str.ofString "apart") = some (.ref D)) → ((∀ y, y ≠ Str.ofString "apart" → m' y = m y)) → (StrsAre av (allP.map (rowS 1))) → (∀ p ∈ (pl, W.listOf (pairsV pu).toArray pk) :: (h₀.objs.size + 1 + 1 + 1 + 1 + 1, o5) :: (h₀.objs.size + 1 + 1 + 1 + 1, o4) :: (h₀.objs.size + 1 + 1 + 1, o3) :: (h₀.objs.size + 1 + 1, o2) :: (h₀.objs.size + 1, o1) :: rest, p.1 ≠ D) → Fr h₀ h₀.objs.size h' m' → News h₀ h₀.objs.size h' ((D, W.listOf av.toArray ae) :: (pl, W.listOf (pairsV pu).toArray pk) :: (h₀.objs.size + 1 + 1 + 1 + 1 + 1, o5) :: (h₀.objs.size + 1 + 1 + 1 + 1, o4) :: (h₀.objs.size + 1 + 1 + 1, o3) :: (h₀.objs.size + 1 + 1, o2) :: (h₀.objs.size + 1, o1) :: rest) → Q .next { s with heap := h', toks := tk }) :
   wpAny (model PG w) (callerA.deeper (lawEnv h₀.objs.size fa cdv)) (execs ([lawAt 9]) (lawEnv h₀.objs.size fa cdv)) Q E s := by
  w_on
  dsimp only [lawEnv, PG, KG, VG, S] at *
  conv in (occs := *) lawScope => all_goals whnf
  conv in (lawAt _) => whnf
  k_steps
  refine go ?_
  refine assign_comp F (by rfl) (by rfl) (by decide) (by rfl) (by decide) (by rfl) (by intro _; with_unfolding_all rfl) (by rfl) (by rfl) ?_
  k_steps
  refine SrcComp.mk [(pl, W.listOf (pairsV pu).toArray pk)] 6 _ _ (fun i ys nw => nw = (pl, W.listOf (pairsV pu).toArray pk) :: (h₀.objs.size + 1 + 1 + 1 + 1 + 1, o5) :: (h₀.objs.size + 1 + 1 + 1 + 1, o4) :: (h₀.objs.size + 1 + 1 + 1, o3) :: (h₀.objs.size + 1 + 1, o2) :: (h₀.objs.size + 1, o1) :: rest ∧ StrsAre ys ((allP.take i).map (rowS 1))) (SrcAt.list (by rfl) N (.head _)) (by decide) (fun _ _ _ h p hp => ?_) F N (fun p hp => ?_) ⟨rfl, .nil⟩ ?_ ?_
  · rw [h.1, List.mem_singleton.mp hp]; exact .head _
  · rw [List.mem_singleton.mp hp]; exact .head _
  · clear F N
    rintro g i v ys nw I oI C oC D m₂ h tk E' ⟨hi, hv⟩ ⟨rfl, hS⟩ hC hx Fc Nc off ⟨ne1, ne2, ne3⟩
    obtain ⟨p, hp, _, rfl⟩ := pairs_get hv
    refine tests_nil ?_
    dsimp only [if_true]
    have Nc2 := News_sub Nc (news' := (C, oC) :: (I, oI) :: (D, LCg.lst ys) :: (pl, W.listOf (pairsV pu).toArray pk) :: (h₀.objs.size + 1 + 1 + 1 + 1 + 1, o5) :: (h₀.objs.size + 1 + 1 + 1 + 1, o4) :: (h₀.objs.size + 1 + 1 + 1, o3) :: (h₀.objs.size + 1 + 1, o2) :: (h₀.objs.size + 1, o1) :: rest) (by
      (repeat with_reducible refine List.forall_mem_cons.mpr ⟨(by (repeat first | with_reducible assumption | with_reducible exact List.mem_cons_self | with_reducible refine List.mem_cons_of_mem _ ?_ | with_reducible exact List.mem_append_left _ (by assumption) | with_reducible refine List.mem_append_right _ ?_)), ?_⟩); first | exact fun _ hq => absurd hq List.not_mem_nil | (intro q hq; (repeat first | with_reducible assumption | with_reducible exact List.mem_cons_self | with_reducible refine List.mem_cons_of_mem _ ?_ | with_reducible exact List.mem_append_left _ (by assumption) | with_reducible refine List.mem_append_right _ ?_); done) | (intro q hq; rcases List.mem_append.mp hq with hq | hq <;> (repeat first | with_reducible assumption | with_reducible exact List.mem_cons_self | with_reducible refine List.mem_cons_of_mem _ ?_ | with_reducible exact List.mem_append_left _ (by assumption) | with_reducible refine List.mem_append_right _ ?_)))
    clear Nc
    change Fr h₀ h₀.objs.size h m at Fc
    change News h₀ h₀.objs.size h _ at Nc2
    k_steps
    refine go ?_
    refine PyProof.Rows.add_str ?_ (hsz := ?_)
    rotate_left
    · show 1 + 2 ≤ sizeLine
      rw [sizeLine_eq]; decide
    intro t5 k5
    rw [show Str.ofString "." ++ pairS p = rowS 1 p from row_1 p]
    k_steps
    rename Fr _ _ _ _ => F7
    rename News _ _ _ _ => N7
    refine LCg.CompEnd.intro F7 N7 _ ?_ off trivial ⟨rfl, ?_⟩
    · (repeat with_reducible refine List.forall_mem_cons.mpr ⟨(by (repeat first | with_reducible assumption | with_reducible exact List.mem_cons_self | with_reducible refine List.mem_cons_of_mem _ ?_ | with_reducible exact List.mem_append_left _ (by assumption) | with_reducible refine List.mem_append_right _ ?_)), ?_⟩); first | exact fun _ hq => absurd hq List.not_mem_nil | (intro q hq; (repeat first | with_reducible assumption | with_reducible exact List.mem_cons_self | with_reducible refine List.mem_cons_of_mem _ ?_ | with_reducible exact List.mem_append_left _ (by assumption) | with_reducible refine List.mem_append_right _ ?_); done) | (intro q hq; rcases List.mem_append.mp hq with hq | hq <;> (repeat first | with_reducible assumption | with_reducible exact List.mem_cons_self | with_reducible refine List.mem_cons_of_mem _ ?_ | with_reducible exact List.mem_append_left _ (by assumption) | with_reducible refine List.mem_append_right _ ?_))
    · rw [take_snoc hp, List.map_append]
      exact Mine.StrsAre.snoc hS _ t5
  · clear F N
    rintro D h tk ys nw F1 N1 off ⟨rfl, hS⟩ h2 tk2 F2 N2
    k_steps
    refine done _ _ _ D ys _ rfl (fun y hy => if_neg hy) hS ?_ F2 N2
    exact fun p hp => off1_mem off p hp
end Mine
end
section
open PySem PySem.W PySem.Calls PyProof.Rows
namespace Mine
theorem fillS8 : (PySem.Challenge.rw_ty0055_01, Mine.hd.heap_1) = (PySem.Challenge.rw_ty0055_01, Mine.hd.heap_1) := by
  k_fill
  rfl

noncomputable def bookRows (a0 a1 a2 a3 : Addr) (t u : F4 → Tok) : List Row := [⟨a0, false, 0, 0, t 0, u 0⟩, ⟨a1, true, 1, 1, t 1, u 1⟩, ⟨a2, false, 2, 2, t 2, u 2⟩, ⟨a3, true, 3, 3, t 3, u 3⟩]
noncomputable def bookLed (a0 a1 a2 a3 : Addr) (t u : F4 → Tok) : List (Addr × Obj) := [(a3, rowO (ltr true 3) (ltr false 3) (t 3) (u 3)), (a2, rowO (ltr false 2) (ltr false 2) (t 2) (u 2)), (a1, rowO (ltr true 1) (ltr false 1) (t 1) (u 1)), (a0, rowO (ltr false 0) (ltr false 0) (t 0) (u 0))]
theorem book_key {g h : Heap} {L : Addr} {nw : List (Addr × Obj)} {a0 a1 a2 a3 : Addr} {t0 t1 t2 t3 u0 u1 u2 u3 : Tok} {i : Nat} {v : Value} {P : Value → Prop} (N : News g L h nw) (hv : [Value.ref a0, Value.ref a1, Value.ref a2, Value.ref a3][i]? = some v)
    (h0 : (a0, rowO (ltr false 0) (ltr false 0) t0 u0) ∈ nw) (h1 : (a1, rowO (ltr true 1) (ltr false 1) t1 u1) ∈ nw) (h2 : (a2, rowO (ltr false 2) (ltr false 2) t2 u2) ∈ nw) (h3 : (a3, rowO (ltr true 3) (ltr false 3) t3 u3) ∈ nw)
    (k : ∀ a b j t u, News g L h ((a, rowO (ltr b j) (ltr false j) t u) :: nw) → P (.ref a)) : P v := by
  match i, hv with
  | 0, hv => cases hv; exact k _ false 0 _ _ (News_cons N h0)
  | 1, hv => cases hv; exact k _ true 1 _ _ (News_cons N h1)
  | 2, hv => cases hv; exact k _ false 2 _ _ (News_cons N h2)
  | 3, hv => cases hv; exact k _ true 3 _ _ (News_cons N h3)
  | i + 4, hv => simp at hv
local macro_rules | `(tactic| k_all) => `(tactic| first | with_reducible assumption | (refine restOff (by with_reducible assumption) ?_; (try dsimp only); omega))
local macro_rules | `(tactic| walk_at "getMethod ref") => `(tactic| (k_here; (with_reducible show wpAny _ _ (getMethod (Value.ref _) (PySem.Str.ofString "search") _) _ _ _); k_dflt (refine' search_method ?F ?X ?p ?_; (case F => k_asm); (case X => k_asm); (case p => k_is))))
set_option maxRecDepth 100000 in
set_option maxHeartbeats 0 in
set_option pp.maxSteps 100000 in
theorem book_step {mean : ExcName → Option Value} {loose : List Str} {mg mb : Str → Option Value} (w : World) (h₀ : Heap) (fa : Addr) (cdv : Value) (m : Str → Option Value) (s : Shared) (Q : Flow → Shared → Prop) (E : Value → Shared → Prop)
   (KX : (KG w.params).In h₀) (T : Top VG loose mean mg mb h₀) (K0 : Below callerA h₀ [] h₀) (hE : PassesOwn (model PG w) (callerA.deeper (lawEnv h₀.objs.size fa cdv)) (lawEnv h₀.objs.size fa cdv) E)
   (o1 o2 o3 o4 o5 : Obj) (rest : List (Addr × Obj)) (hc2 : ∀ p ∈ rest, p.1 ≠ h₀.objs.size + 1 + 1) (ho2 : o2.data = .cell none) 
   
   (F : Fr h₀ h₀.objs.size s.heap m)
   (N : News h₀ h₀.objs.size s.heap ((h₀.objs.size + 1 + 1 + 1 + 1 + 1, o5) :: (h₀.objs.size + 1 + 1 + 1 + 1, o4) :: (h₀.objs.size + 1 + 1 + 1, o3) :: (h₀.objs.size + 1 + 1, o2) :: (h₀.objs.size + 1, o1) :: rest))
   (done : ∀ h' tk m' kt sa da hl pe a0 a1 a2 a3 tb ub o2', (o2'.data = .cell (some (.ref sa))) → (@LT.lt Nat _ hl da) → (@LT.lt Nat _ da sa) → (AllLt hl (bookLed a0 a1 a2 a3 tb ub ++ ((h₀.objs.size + 1 + 1 + 1 + 1 + 1, o5) :: (h₀.objs.size + 1 + 1 + 1 + 1, o4) :: (h₀.objs.size + 1 + 1 + 1, o3) :: (h₀.objs.size + 1 + 1, o2') :: (h₀.objs.size + 1, o1) :: rest))) → (∀ y, m' y = m y) → Fr h₀ h₀.objs.size h' m' → News h₀ h₀.objs.size h' ((sa, instObj 229 da) :: (da, headD w kt hl 1) :: (hl, W.listOf (refs (bookRows a0 a1 a2 a3 tb ub)).toArray pe) :: (bookLed a0 a1 a2 a3 tb ub ++ ((h₀.objs.size + 1 + 1 + 1 + 1 + 1, o5) :: (h₀.objs.size + 1 + 1 + 1 + 1, o4) :: (h₀.objs.size + 1 + 1 + 1, o3) :: (h₀.objs.size + 1 + 1, o2') :: (h₀.objs.size + 1, o1) :: rest))) → Q .next { s with heap := h', toks := tk }) :
   wpAny (model PG w) (callerA.deeper (lawEnv h₀.objs.size fa cdv)) (execs ([lawAt 8]) (lawEnv h₀.objs.size fa cdv)) Q E s := by
  w_on
  dsimp only [lawEnv, PG, KG, VG, S] at *
  conv in (occs := *) lawScope => all_goals whnf
  conv in (lawAt _) => whnf
  k_steps
  refine go ?_
  rename Fr _ _ _ _ => Fa
  refine @For_list _ _ _ _ _ _ _ _ _ _ _ _ _ Fa (by rfl) (by intro _; with_unfolding_all rfl) (by passes_own) ?_
  k_steps
  rename Fr _ _ _ _ => Fb
  rename News _ _ _ _ => Nb
  dsimp only at Nb
  refine ListLoop.mk _ _ 0 _ _ (fun i m₁ nw => nw = _ ∧ m₁ (Str.ofString "self") = some _) rfl (.tail _ (.tail _ (.head _))) ?_ Fb Nb ⟨rfl, rfl⟩ ?_ ?_
  · rintro _ _ _ ⟨rfl, _⟩
    exact .tail _ (.tail _ (.head _))
  · clear Fb Nb
    rintro i v m₁ nw h tk I o hv ⟨rfl, e1⟩ hI F N
    refine book_key (v := v) (P := fun v => wpAny _ _ (assign _ _ v) _ _ _) N hv (.tail _ (.tail _ (.tail _ (.tail _ (.tail _ (.tail _ (.tail _ (.head _)))))))) (.tail _ (.tail _ (.tail _ (.tail _ (.tail _ (.tail _ (.head _))))))) (.tail _ (.tail _ (.tail _ (.tail _ (.tail _ (.head _)))))) (.tail _ (.tail _ (.tail _ (.tail _ (.head _))))) ?_
    clear N hv
    intro a b j ta ua N
    replace F := Fr_knows F [(Str.ofString "self", _)] (kn1 e1 kn0)
    dsimp only [know] at F
    dsimp only [rowO] at N
    k_steps
    refine go ?_
    rename Fr _ _ _ _ => F2
    refine search_call (src := _) (fl := _) (codes := nameCodes) F2 (by assumption) (by k_is) (by k_is) (eq_of_beq (name_free _ (ltr_mem _ _))) ?_
    k_steps
    refine go ?_
    rename Fr _ _ _ _ => F2
    refine search_call (src := _) (fl := _) (codes := valCodes) F2 (by assumption) (by k_is) (by k_is) (eq_of_beq (val_free _ (ltr_mem _ _))) ?_
    k_steps
    rename Fr _ _ _ _ => F7
    rename News _ _ _ _ => N7
    refine TurnU.intro F7 (News_sub N7 (sub_cons (.tail _ (.head _)) (fun p hp => .tail _ (.tail _ hp)))) hI ⟨rfl, rfl⟩
  · clear Fb Nb
    rintro h' tk m' nw F N ⟨rfl, e1⟩
    k_steps
    rename Fr _ _ _ _ => F7
    rename News _ _ _ _ => N7
    refine done _ _ _ _ _ _ _ _ _ _ _ _ (fun j => match j with | 0 => _ | 1 => _ | 2 => _ | 3 => _) (fun j => match j with | 0 => _ | 1 => _ | 2 => _ | 3 => _) _ (by assumption) ?_ ?_ ?_ (fun _ => rfl) F7 N7
    · show _ < _
      omega
    · show _ < _
      omega
    · show AllLt _ _
      assumption
end Mine
end
section
open PySem PySem.W PySem.Calls PyProof.Rows
namespace Mine
theorem fillS10 : (PySem.Challenge.rw_ty0055_01, Mine.hd.heap_1) = (PySem.Challenge.rw_ty0055_01, Mine.hd.heap_1) := by
  k_fill
  rfl

local macro_rules | `(tactic| k_all) => `(tactic| first | with_reducible assumption | (refine restOff (by with_reducible assumption) ?_; (try dsimp only); omega))
set_option maxRecDepth 100000 in
set_option maxHeartbeats 0 in
set_option pp.maxSteps 100000 in
theorem home_step0 {mean : ExcName → Option Value} {loose : List Str} {mg mb : Str → Option Value} (w : World) (h₀ : Heap) (fa : Addr) (cdv : Value) (m : Str → Option Value) (s : Shared) (Q : Flow → Shared → Prop) (E : Value → Shared → Prop)
   (KX : (KG w.params).In h₀) (T : Top VG loose mean mg mb h₀) (K0 : Below callerA h₀ [] h₀) (hE : PassesOwn (model PG w) (callerA.deeper (lawEnv h₀.objs.size fa cdv)) (lawEnv h₀.objs.size fa cdv) E)
   (o1 o2 o3 o4 o5 : Obj) (rest : List (Addr × Obj)) (hc3 : ∀ p ∈ rest, p.1 ≠ h₀.objs.size + 1 + 1 + 1) (ho3 : o3.data = .cell none)
   
   (F : Fr h₀ h₀.objs.size s.heap m)
   (N : News h₀ h₀.objs.size s.heap ((h₀.objs.size + 1 + 1 + 1 + 1 + 1, o5) :: (h₀.objs.size + 1 + 1 + 1 + 1, o4) :: (h₀.objs.size + 1 + 1 + 1, o3) :: (h₀.objs.size + 1 + 1, o2) :: (h₀.objs.size + 1, o1) :: rest))
   (done : ∀ h' tk m' hol oe o3' tm tp, (o3'.data = .cell (some (.ref hol))) → (AllLt hol ((h₀.objs.size + 1 + 1 + 1 + 1 + 1, o5) :: (h₀.objs.size + 1 + 1 + 1 + 1, o4) :: (h₀.objs.size + 1 + 1 + 1, o3') :: (h₀.objs.size + 1 + 1, o2) :: (h₀.objs.size + 1, o1) :: rest)) → (m' (Str.ofString "made") = some (.int 0 tm)) → (m' (Str.ofString "parted") = some (.int 0 tp)) → (∀ y, y ≠ Str.ofString "made" → y ≠ Str.ofString "parted" → m' y = m y) → Fr h₀ h₀.objs.size h' m' → News h₀ h₀.objs.size h' ((hol, W.listOf ([] : List Value).toArray oe) :: ((h₀.objs.size + 1 + 1 + 1 + 1 + 1, o5) :: (h₀.objs.size + 1 + 1 + 1 + 1, o4) :: (h₀.objs.size + 1 + 1 + 1, o3') :: (h₀.objs.size + 1 + 1, o2) :: (h₀.objs.size + 1, o1) :: rest)) → Q .next { s with heap := h', toks := tk }) :
   wpAny (model PG w) (callerA.deeper (lawEnv h₀.objs.size fa cdv)) (execs ([lawAt 10, lawAt 11, lawAt 12]) (lawEnv h₀.objs.size fa cdv)) Q E s := by
  w_on
  dsimp only [lawEnv, PG, KG, VG, S] at *
  conv in (occs := *) lawScope => all_goals whnf
  conv in (occs := *) (lawAt _) => all_goals whnf
  k_steps
  rename Fr _ _ _ _ => F7
  rename News _ _ _ _ => N7
  refine done _ _ _ _ _ _ _ _ (by assumption) ?_ rfl rfl (fun y h1 h2 => ?_) F7 N7
  · show AllLt _ _
    assumption
  · show (if _ then _ else if _ then _ else _) = _
    rw [if_neg h2, if_neg h1]
end Mine
end
section
open PySem PySem.W PySem.Calls PyProof.Rows
namespace Mine
theorem fillP1 : (PySem.Challenge.rw_ty0055_01, Mine.hd.heap_1) = (PySem.Challenge.rw_ty0055_01, Mine.hd.heap_1) := by
  k_fill
  rfl

local macro_rules | `(tactic| walk_at "subscriptTail Name Slice ref ref") => `(tactic| (refine halt ?_))
theorem pick6 (vs : List Value) : slicePick vs.toArray none (some 6) none = (vs.take 6).toArray := by
  rcases Nat.lt_or_ge vs.length 6 with h | h
  · have e : sliceBounds none (some 6) none vs.toArray.size = sliceBounds none none none vs.toArray.size := by
      simp only [sliceBounds, List.size_toArray, Option.getD_none]
      simp
      omega
    have : slicePick vs.toArray none (some 6) none = slicePick vs.toArray none none none := by
      unfold slicePick
      rw [e]
    rw [this, slicePick_all, List.take_of_length_le (by omega)]
  · have := slicePick_upto vs.toArray 6 (by rw [List.size_toArray]; exact h)
    simpa using this
noncomputable def drawnV (d : F6 → Int) (t : F6 → Tok) : List Value := [.int (d 0) (t 0), .int (d 1) (t 1), .int (d 2) (t 2), .int (d 3) (t 3), .int (d 4) (t 4), .int (d 5) (t 5)]
theorem ints_cons {vs : List Value} {n : Int} {ns : List Int} (h : IntsAre vs (n :: ns)) : ∃ t vs', vs = .int n t :: vs' ∧ IntsAre vs' ns := by
  cases h with
  | cons _ t r => exact ⟨t, _, rfl, r⟩
theorem six_ints {vs : List Value} {ns : List Int} (h : IntsAre vs ns) (hl : ns.length = 6) : ∃ (d : F6 → Int) (t : F6 → Tok), vs = drawnV d t := by
  match ns, hl with
  | [n0, n1, n2, n3, n4, n5], _ =>
    obtain ⟨t0, w0, e0, k0⟩ := ints_cons h
    obtain ⟨t1, w1, e1, k1⟩ := ints_cons k0
    obtain ⟨t2, w2, e2, k2⟩ := ints_cons k1
    obtain ⟨t3, w3, e3, k3⟩ := ints_cons k2
    obtain ⟨t4, w4, e4, k4⟩ := ints_cons k3
    obtain ⟨t5, w5, e5, k5⟩ := ints_cons k4
    cases k5
    subst e5 e4 e3 e2 e1 e0
    exact ⟨fun | 0 => n0 | 1 => n1 | 2 => n2 | 3 => n3 | 4 => n4 | 5 => n5, fun | 0 => t0 | 1 => t1 | 2 => t2 | 3 => t3 | 4 => t4 | 5 => t5, rfl⟩
theorem ints_take {vs : List Value} {ns : List Int} (h : IntsAre vs ns) : ∀ k, IntsAre (vs.take k) (ns.take k) := by
  induction h with
  | nil => intro k; simp; exact .nil
  | cons n t h ih =>
    intro k
    cases k with
    | zero => exact .nil
    | succ k => exact .cons n t (ih k)
theorem ints_drop {vs : List Value} {ns : List Int} (h : IntsAre vs ns) : ∀ k, IntsAre (vs.drop k) (ns.drop k) := by
  induction h with
  | nil => intro k; simp; exact .nil
  | cons n t h ih =>
    intro k
    cases k with
    | zero => exact .cons n t h
    | succ k => exact ih k
theorem ints_append {vs us : List Value} {ns ms : List Int} (h : IntsAre vs ns) (h2 : IntsAre us ms) : IntsAre (vs ++ us) (ns ++ ms) := by
  induction h with
  | nil => exact h2
  | cons n t h ih => exact .cons n t ih
theorem ints_len {vs : List Value} {ns : List Int} (h : IntsAre vs ns) : vs.length = ns.length := by
  induction h with
  | nil => rfl
  | cons n t h ih => simp [ih]
noncomputable def fixedV (t : F6 → Tok) : List Value := [.int 16 (t 0), .int 28 (t 1), .int 4 (t 2), .int 7 (t 3), .int 33 (t 4), .int 11 (t 5)]
noncomputable def fixedN : List Int := [16, 28, 4, 7, 33, 11]
theorem fixed_are (t : F6 → Tok) : IntsAre (fixedV t) fixedN := .cons _ _ (.cons _ _ (.cons _ _ (.cons _ _ (.cons _ _ (.cons _ _ .nil)))))
set_option maxRecDepth 100000 in
set_option maxHeartbeats 0 in
set_option pp.maxSteps 100000 in
theorem fixed_step {mean : ExcName → Option Value} {loose : List Str} {mg mb : Str → Option Value} (w : World) (h₀ : Heap) (fa : Addr) (cdv : Value) (m : Str → Option Value) (s : Shared) (Q : Flow → Shared → Prop) (E : Value → Shared → Prop)
   (KX : (KG w.params).In h₀) (T : Top VG loose mean mg mb h₀) (K0 : Below callerA h₀ [] h₀) (hE : PassesOwn (model PG w) (callerA.deeper (lawEnv h₀.objs.size fa cdv)) (lawEnv h₀.objs.size fa cdv) E)
   (rest : List (Addr × Obj))
   
   (F : Fr h₀ h₀.objs.size s.heap m)
   (N : News h₀ h₀.objs.size s.heap (rest))
   (done : ∀ h' tk m' fl fk tf, (m' (Str.ofString "fixed") = some (.ref fl)) → ((∀ y, y ≠ Str.ofString "fixed" → m' y = m y)) → (∀ p ∈ rest, p.1 < fl) → Fr h₀ h₀.objs.size h' m' → News h₀ h₀.objs.size h' ((fl, W.listOf (fixedV tf).toArray fk) :: rest) → Q .next { s with heap := h', toks := tk }) :
   wpAny (model PG w) (callerA.deeper (lawEnv h₀.objs.size fa cdv)) (execs ([lawAt 0]) (lawEnv h₀.objs.size fa cdv)) Q E s := by
  w_on
  dsimp only [lawEnv, PG, KG, VG, S] at *
  conv in (occs := *) lawScope => all_goals whnf
  conv in (occs := *) (lawAt _) => all_goals whnf
  k_steps
  rename Fr _ _ _ _ => F7
  rename News _ _ _ _ => N7
  refine done _ _ _ _ _ (fun | 0 => _ | 1 => _ | 2 => _ | 3 => _ | 4 => _ | 5 => _) rfl (fun y hy => if_neg hy) ?_ F7 N7
  assumption
set_option maxRecDepth 100000 in
set_option maxHeartbeats 0 in
set_option pp.maxSteps 100000 in
theorem drawn_step {mean : ExcName → Option Value} {loose : List Str} {mg mb : Str → Option Value} (w : World) (h₀ : Heap) (fa : Addr) (cdv : Value) (m : Str → Option Value) (s : Shared) (Q : Flow → Shared → Prop) (E : Value → Shared → Prop)
   (KX : (KG w.params).In h₀) (T : Top VG loose mean mg mb h₀) (K0 : Below callerA h₀ [] h₀) (hE : PassesOwn (model PG w) (callerA.deeper (lawEnv h₀.objs.size fa cdv)) (lawEnv h₀.objs.size fa cdv) E)
   (fl : Addr) (fk : Nat) (tf : F6 → Tok) (sl : Addr) (ws : List Value) (ns : List Int) (hsl : h₀.IsList sl ws.toArray) (hI : IntsAre ws ns) (hn : ns.length ≤ 63) (rest : List (Addr × Obj))
    (e_script : m (Str.ofString "script") = some (.ref sl)) (e_fixed : m (Str.ofString "fixed") = some (.ref fl))
   (F : Fr h₀ h₀.objs.size s.heap m)
   (N : News h₀ h₀.objs.size s.heap ((fl, W.listOf (fixedV tf).toArray fk) :: rest))
   (done : ∀ h' tk m' dl dk d td, (m' (Str.ofString "drawn") = some (.ref dl)) → ((∀ y, y ≠ Str.ofString "drawn" → m' y = m y)) → (∀ p ∈ rest, p.1 < dl) → Fr h₀ h₀.objs.size h' m' → News h₀ h₀.objs.size h' ((dl, W.listOf (drawnV d td).toArray dk) :: rest) → Q .next { s with heap := h', toks := tk }) :
   wpAny (model PG w) (callerA.deeper (lawEnv h₀.objs.size fa cdv)) (execs ([lawAt 1]) (lawEnv h₀.objs.size fa cdv)) Q E s := by
  w_on
  replace F := Fr_knows F [((Str.ofString "script"), .ref sl), ((Str.ofString "fixed"), .ref fl)] (kn1 e_script (kn1 e_fixed kn0))
  dsimp only [know] at F
  dsimp only [lawEnv, PG, KG, VG, S] at *
  conv in (occs := *) lawScope => all_goals whnf
  have hwl := ints_len hI
  have hw : ws.length ≤ 63 := by omega
  conv in (occs := *) (lawAt _) => all_goals whnf
  k_steps
  refine go ?_
  rename Fr _ _ _ _ => F2
  rename News _ _ _ _ => N2
  refine slice_list (s := ⟨_, _, _, _, _⟩) F2 N2 (F2.lst hsl) .none (.int _ _) ?_ (hsz := by rw [List.size_toArray, sizeLine_eq]; omega)
  intro h5 F5 N5
  rw [pick6] at N5
  clear F2 N2
  k_steps
  refine go ?_
  rename Fr _ _ _ _ => F2
  rename News _ _ _ _ => N2
  refine slice_list (s := ⟨_, _, _, _, _⟩) F2 N2 (F2.lst hsl) .none (.int _ _) ?_ (hsz := by rw [List.size_toArray, sizeLine_eq]; omega)
  intro h6 F6 N6
  rw [pick6] at N6
  clear F2 N2
  k_steps
  refine go ?_
  refine call_len_list (News.isList N6 (.head _)) (by rw [List.size_toArray, List.length_take]; omega) ?_
  have ek : (ws.take 6).toArray.size = min 6 ws.length := by rw [List.size_toArray, List.length_take]
  rw [ek]
  try dsimp only
  k_steps
  refine go ?_
  rename Fr _ _ _ _ => F2
  rename News _ _ _ _ => N2
  refine slice_list (s := ⟨_, _, _, _, _⟩) F2 N2 (News_isList N2 (l := fl) (vs := (fixedV tf).toArray) (n := fk) (.tail _ (.tail _ (.head _)))) (.int _ _) .none ?_ (hsz := by rw [List.size_toArray, sizeLine_eq]; show 6 ≤ _; decide)
  intro h7 F7 N7
  rw [slicePick_from _ _ (by rw [List.size_toArray]; exact Nat.min_le_left _ _)] at N7
  clear F2 N2
  have e2 : (fixedV tf).toArray.toList = fixedV tf := rfl
  rw [e2] at N7
  k_steps
  refine go ?_
  rename Fr _ _ _ _ => F2
  rename News _ _ _ _ => N2
  refine add_arrays (s := ⟨_, _, _, _, _⟩) F2 N2 (News.isList N2 (.tail _ (.tail _ (.head _)))) (News.isList N2 (.head _)) ?_ (hsz := by simp only [List.size_toArray, sizeLine_eq, List.length_drop, List.length_take]; show _ + (6 - _) ≤ _; omega)
  intro h8 F8 N8
  have hi : IntsAre ((ws.take 6).toArray.toList ++ ((fixedV tf).drop (min 6 ws.length)).toArray.toList) (ns.take 6 ++ fixedN.drop (min 6 ws.length)) := ints_append (ints_take hI 6) (ints_drop (fixed_are tf) _)
  obtain ⟨d, td, hdv⟩ := six_ints hi (by rw [List.length_append, List.length_take, List.length_drop]; show _ + (6 - _) = 6; omega)
  rw [hdv] at N8
  have hlt : ∀ q ∈ rest, @LT.lt Nat _ q.1 _ := fun q hq => Heap.lt_size (N2 q (.tail _ (.tail _ (.tail _ (.tail _ hq))))).1
  clear F2 N2
  k_steps
  rename Fr _ _ _ _ => F9
  rename News _ _ _ _ => N9
  refine done _ _ _ _ 0 d td rfl (fun y hy => ?_) hlt F9 (News_sub N9 ?_)
  · show (if _ then _ else if _ then _ else _) = _
    rw [if_neg hy]
    exact know_if e_script (know_if e_fixed rfl)
  · intro q hq
    rcases List.mem_cons.mp hq with rfl | hq
    · exact .head _
    · simp [hq]
end Mine
end
section
open PySem PySem.W PySem.Calls PyProof.Rows
namespace Mine
theorem fillP2 : (PySem.Challenge.rw_ty0055_01, Mine.hd.heap_1) = (PySem.Challenge.rw_ty0055_01, Mine.hd.heap_1) := by
  k_fill
  rfl

local macro_rules | `(tactic| k_all) => `(tactic| first | with_reducible assumption | (refine restOff (by with_reducible assumption) ?_; (try dsimp only); omega))
local macro_rules | `(tactic| walk_at "exec Assign cons ListComp") => `(tactic| (refine halt ?_))
local macro_rules | `(tactic| walk_at "call builtin:sum") => `(tactic| (refine halt ?_))
theorem drawn_get {d : F6 → Int} {t : F6 → Tok} {i : Nat} {v : Value} (h : (drawnV d t)[i]? = some v) : ∃ p : F6, allP[i]? = some p ∧ p.val = i ∧ v = .int (d p) (t p) := by
  match i, h with
  | 0, h => exact ⟨0, rfl, rfl, by cases h; rfl⟩
  | 1, h => exact ⟨1, rfl, rfl, by cases h; rfl⟩
  | 2, h => exact ⟨2, rfl, rfl, by cases h; rfl⟩
  | 3, h => exact ⟨3, rfl, rfl, by cases h; rfl⟩
  | 4, h => exact ⟨4, rfl, rfl, by cases h; rfl⟩
  | 5, h => exact ⟨5, rfl, rfl, by cases h; rfl⟩
  | i + 6, h => simp [drawnV] at h
theorem ints_snoc {vs : List Value} {ns : List Int} (h : IntsAre vs ns) (n : Int) (t : Tok) : IntsAre (vs ++ [.int n t]) (ns ++ [n]) := ints_append h (.cons _ _ .nil)
theorem six_of {vs : List Value} {f : F6 → Int} (h : IntsAre vs (allP.map f)) : ∃ t, vs = drawnV f t := by
  obtain ⟨t0, w0, e0, k0⟩ := ints_cons h
  obtain ⟨t1, w1, e1, k1⟩ := ints_cons k0
  obtain ⟨t2, w2, e2, k2⟩ := ints_cons k1
  obtain ⟨t3, w3, e3, k3⟩ := ints_cons k2
  obtain ⟨t4, w4, e4, k4⟩ := ints_cons k3
  obtain ⟨t5, w5, e5, k5⟩ := ints_cons k4
  cases k5
  subst e5 e4 e3 e2 e1 e0
  exact ⟨fun | 0 => t0 | 1 => t1 | 2 => t2 | 3 => t3 | 4 => t4 | 5 => t5, rfl⟩
theorem drawn_are (d : F6 → Int) (t : F6 → Tok) : IntsAre (drawnV d t) (allP.map d) := .cons _ _ (.cons _ _ (.cons _ _ (.cons _ _ (.cons _ _ (.cons _ _ .nil)))))
set_option maxRecDepth 100000 in
set_option maxHeartbeats 0 in
set_option pp.maxSteps 100000 in
theorem pairs_step {mean : ExcName → Option Value} {loose : List Str} {mg mb : Str → Option Value} (w : World) (h₀ : Heap) (fa : Addr) (cdv : Value) (m : Str → Option Value) (s : Shared) (Q : Flow → Shared → Prop) (E : Value → Shared → Prop)
   (KX : (KG w.params).In h₀) (T : Top VG loose mean mg mb h₀) (K0 : Below callerA h₀ [] h₀) (hE : PassesOwn (model PG w) (callerA.deeper (lawEnv h₀.objs.size fa cdv)) (lawEnv h₀.objs.size fa cdv) E)
   (o1 o2 o3 o4 o5 : Obj) (rest : List (Addr × Obj)) (hc1 : ∀ p ∈ rest, p.1 ≠ h₀.objs.size + 1) (ho1 : o1.data = .cell none)
   
   (F : Fr h₀ h₀.objs.size s.heap m)
   (N : News h₀ h₀.objs.size s.heap ((h₀.objs.size + 1 + 1 + 1 + 1 + 1, o5) :: (h₀.objs.size + 1 + 1 + 1 + 1, o4) :: (h₀.objs.size + 1 + 1 + 1, o3) :: (h₀.objs.size + 1 + 1, o2) :: (h₀.objs.size + 1, o1) :: rest))
   (done : ∀ h' tk m' pl pk pu o1', (o1'.data = .cell (some (.ref pl))) → (AllLt pl ((h₀.objs.size + 1 + 1 + 1 + 1 + 1, o5) :: (h₀.objs.size + 1 + 1 + 1 + 1, o4) :: (h₀.objs.size + 1 + 1 + 1, o3) :: (h₀.objs.size + 1 + 1, o2) :: (h₀.objs.size + 1, o1') :: rest)) → (∀ y, m' y = m y) → Fr h₀ h₀.objs.size h' m' → News h₀ h₀.objs.size h' ((pl, W.listOf (pairsV pu).toArray pk) :: ((h₀.objs.size + 1 + 1 + 1 + 1 + 1, o5) :: (h₀.objs.size + 1 + 1 + 1 + 1, o4) :: (h₀.objs.size + 1 + 1 + 1, o3) :: (h₀.objs.size + 1 + 1, o2) :: (h₀.objs.size + 1, o1') :: rest)) → Q .next { s with heap := h', toks := tk }) :
   wpAny (model PG w) (callerA.deeper (lawEnv h₀.objs.size fa cdv)) (execs ([lawAt 2]) (lawEnv h₀.objs.size fa cdv)) Q E s := by
  w_on
  dsimp only [lawEnv, PG, KG, VG, S] at *
  conv in (occs := *) lawScope => all_goals whnf
  conv in (occs := *) (lawAt _) => all_goals whnf
  k_steps
  rename Fr _ _ _ _ => F7
  rename News _ _ _ _ => N7
  obtain ⟨p0, p1, p2, p3, p4, p5⟩ := pairs_lit
  rw [p0, p1, p2, p3, p4, p5] at N7
  refine done _ _ _ _ _ (fun | 0 => _ | 1 => _ | 2 => _ | 3 => _ | 4 => _ | 5 => _) _ (by assumption) ?_ (fun _ => rfl) F7 N7
  show AllLt _ _
  assumption
set_option maxRecDepth 100000 in
set_option maxHeartbeats 0 in
set_option pp.maxSteps 100000 in
theorem ends_step {mean : ExcName → Option Value} {loose : List Str} {mg mb : Str → Option Value} (w : World) (h₀ : Heap) (fa : Addr) (cdv : Value) (m : Str → Option Value) (s : Shared) (Q : Flow → Shared → Prop) (E : Value → Shared → Prop)
   (KX : (KG w.params).In h₀) (T : Top VG loose mean mg mb h₀) (K0 : Below callerA h₀ [] h₀) (hE : PassesOwn (model PG w) (callerA.deeper (lawEnv h₀.objs.size fa cdv)) (lawEnv h₀.objs.size fa cdv) E)
   (rest : List (Addr × Obj))
   
   (F : Fr h₀ h₀.objs.size s.heap m)
   (N : News h₀ h₀.objs.size s.heap (rest))
   (done : ∀ h' tk m' el ek e0 e1 e2, (m' (Str.ofString "ends") = some (.ref el)) → ((∀ y, y ≠ Str.ofString "ends" → m' y = m y)) → (∀ p ∈ rest, p.1 < el) → Fr h₀ h₀.objs.size h' m' → News h₀ h₀.objs.size h' ((el, W.listOf [Value.str (endS 0) e0, Value.str (endS 1) e1, Value.str (endS 2) e2].toArray ek) :: rest) → Q .next { s with heap := h', toks := tk }) :
   wpAny (model PG w) (callerA.deeper (lawEnv h₀.objs.size fa cdv)) (execs ([lawAt 3]) (lawEnv h₀.objs.size fa cdv)) Q E s := by
  w_on
  dsimp only [lawEnv, PG, KG, VG, S] at *
  conv in (occs := *) lawScope => all_goals whnf
  conv in (occs := *) (lawAt _) => all_goals whnf
  k_steps
  rename Fr _ _ _ _ => F7
  rename News _ _ _ _ => N7
  obtain ⟨p0, p1, p2⟩ := end_lits
  rw [p0, p1, p2] at N7
  refine done _ _ _ _ _ _ _ _ rfl (fun y hy => if_neg hy) ?_ F7 N7
  assumption
set_option maxRecDepth 100000 in
set_option maxHeartbeats 0 in
set_option pp.maxSteps 100000 in
theorem depths_step {mean : ExcName → Option Value} {loose : List Str} {mg mb : Str → Option Value} (w : World) (h₀ : Heap) (fa : Addr) (cdv : Value) (m : Str → Option Value) (s : Shared) (Q : Flow → Shared → Prop) (E : Value → Shared → Prop)
   (KX : (KG w.params).In h₀) (T : Top VG loose mean mg mb h₀) (K0 : Below callerA h₀ [] h₀) (hE : PassesOwn (model PG w) (callerA.deeper (lawEnv h₀.objs.size fa cdv)) (lawEnv h₀.objs.size fa cdv) E)
   (dl : Addr) (dk : Nat) (d : F6 → Int) (td : F6 → Tok) (rest : List (Addr × Obj))
    (e_drawn : m (Str.ofString "drawn") = some (.ref dl))
   (F : Fr h₀ h₀.objs.size s.heap m)
   (N : News h₀ h₀.objs.size s.heap ((dl, W.listOf (drawnV d td).toArray dk) :: rest))
   (done : ∀ h' tk m' el ek te, (m' (Str.ofString "depths") = some (.ref el)) → ((∀ y, y ≠ Str.ofString "depths" → m' y = m y)) → (∀ p ∈ (dl, W.listOf (drawnV d td).toArray dk) :: rest, p.1 ≠ el) → Fr h₀ h₀.objs.size h' m' → News h₀ h₀.objs.size h' ((el, W.listOf (drawnV (fun p => (d p).fmod 5) te).toArray ek) :: (dl, W.listOf (drawnV d td).toArray dk) :: rest) → Q .next { s with heap := h', toks := tk }) :
   wpAny (model PG w) (callerA.deeper (lawEnv h₀.objs.size fa cdv)) (execs ([lawAt 4]) (lawEnv h₀.objs.size fa cdv)) Q E s := by
  w_on
  replace F := Fr_knows F [((Str.ofString "drawn"), .ref dl)] (kn1 e_drawn kn0)
  dsimp only [know] at F
  dsimp only [lawEnv, PG, KG, VG, S] at *
  conv in (occs := *) lawScope => all_goals whnf
  conv in (lawAt _) => whnf
  k_steps
  refine go ?_
  refine assign_comp F (by rfl) (by rfl) (by decide) (by rfl) (by decide) (by rfl) (by intro _; with_unfolding_all rfl) (by rfl) (by rfl) ?_
  k_steps
  refine SrcComp.mk [(dl, W.listOf (drawnV d td).toArray dk)] 6 _ _ (fun i ys nw => nw = (dl, W.listOf (drawnV d td).toArray dk) :: rest ∧ IntsAre ys ((allP.take i).map fun p => (d p).fmod 5)) (SrcAt.list (by rfl) N (.head _)) (by decide) (fun _ _ _ h p hp => ?_) F N (fun p hp => ?_) ⟨rfl, .nil⟩ ?_ ?_
  · rw [h.1, List.mem_singleton.mp hp]; exact .head _
  · rw [List.mem_singleton.mp hp]; exact .head _
  · clear F N
    rintro g i v ys nw I oI C oC D m₂ h tk E' ⟨hi, hv⟩ ⟨rfl, hS⟩ hC hx Fc Nc off ⟨ne1, ne2, ne3⟩
    obtain ⟨p, hp, _, rfl⟩ := drawn_get hv
    refine tests_nil ?_
    dsimp only [if_true]
    have Nc2 := News_sub Nc (news' := (C, oC) :: (I, oI) :: (D, LCg.lst ys) :: (dl, W.listOf (drawnV d td).toArray dk) :: rest) (by
      (repeat with_reducible refine List.forall_mem_cons.mpr ⟨(by (repeat first | with_reducible assumption | with_reducible exact List.mem_cons_self | with_reducible refine List.mem_cons_of_mem _ ?_ | with_reducible exact List.mem_append_left _ (by assumption) | with_reducible refine List.mem_append_right _ ?_)), ?_⟩); first | exact fun _ hq => absurd hq List.not_mem_nil | (intro q hq; (repeat first | with_reducible assumption | with_reducible exact List.mem_cons_self | with_reducible refine List.mem_cons_of_mem _ ?_ | with_reducible exact List.mem_append_left _ (by assumption) | with_reducible refine List.mem_append_right _ ?_); done) | (intro q hq; rcases List.mem_append.mp hq with hq | hq <;> (repeat first | with_reducible assumption | with_reducible exact List.mem_cons_self | with_reducible refine List.mem_cons_of_mem _ ?_ | with_reducible exact List.mem_append_left _ (by assumption) | with_reducible refine List.mem_append_right _ ?_)))
    clear Nc
    change Fr h₀ h₀.objs.size h _ at Fc
    change News h₀ h₀.objs.size h _ at Nc2
    k_steps
    rename Fr _ _ _ _ => F7
    rename News _ _ _ _ => N7
    refine LCg.CompEnd.intro F7 N7 _ ?_ off trivial ⟨rfl, ?_⟩
    · (repeat with_reducible refine List.forall_mem_cons.mpr ⟨(by (repeat first | with_reducible assumption | with_reducible exact List.mem_cons_self | with_reducible refine List.mem_cons_of_mem _ ?_ | with_reducible exact List.mem_append_left _ (by assumption) | with_reducible refine List.mem_append_right _ ?_)), ?_⟩); first | exact fun _ hq => absurd hq List.not_mem_nil | (intro q hq; (repeat first | with_reducible assumption | with_reducible exact List.mem_cons_self | with_reducible refine List.mem_cons_of_mem _ ?_ | with_reducible exact List.mem_append_left _ (by assumption) | with_reducible refine List.mem_append_right _ ?_); done) | (intro q hq; rcases List.mem_append.mp hq with hq | hq <;> (repeat first | with_reducible assumption | with_reducible exact List.mem_cons_self | with_reducible refine List.mem_cons_of_mem _ ?_ | with_reducible exact List.mem_append_left _ (by assumption) | with_reducible refine List.mem_append_right _ ?_))
    · rw [take_snoc hp, List.map_append]
      exact ints_snoc hS _ _
  · clear F N
    rintro D h tk ys nw F1 N1 off ⟨rfl, hS⟩ h2 tk2 F2 N2
    obtain ⟨te, rfl⟩ := six_of hS
    k_steps
    refine done _ _ _ D _ te rfl (fun y hy => ?_) ?_ F2 N2
    · rw [if_neg hy]
      exact know_if e_drawn rfl
    · exact fun p hp => off1_mem off p hp
set_option maxRecDepth 100000 in
set_option maxHeartbeats 0 in
set_option pp.maxSteps 100000 in
theorem total_step {mean : ExcName → Option Value} {loose : List Str} {mg mb : Str → Option Value} (w : World) (h₀ : Heap) (fa : Addr) (cdv : Value) (m : Str → Option Value) (s : Shared) (Q : Flow → Shared → Prop) (E : Value → Shared → Prop)
   (KX : (KG w.params).In h₀) (T : Top VG loose mean mg mb h₀) (K0 : Below callerA h₀ [] h₀) (hE : PassesOwn (model PG w) (callerA.deeper (lawEnv h₀.objs.size fa cdv)) (lawEnv h₀.objs.size fa cdv) E)
   (dl : Addr) (dk : Nat) (d : F6 → Int) (td : F6 → Tok) (rest : List (Addr × Obj))
    (e_drawn : m (Str.ofString "drawn") = some (.ref dl))
   (F : Fr h₀ h₀.objs.size s.heap m)
   (N : News h₀ h₀.objs.size s.heap ((dl, W.listOf (drawnV d td).toArray dk) :: rest))
   (done : ∀ h' tk m' T0 tt, (m' (Str.ofString "total") = some (.int T0 tt)) → ((∀ y, y ≠ Str.ofString "total" → m' y = m y)) → Fr h₀ h₀.objs.size h' m' → News h₀ h₀.objs.size h' ((dl, W.listOf (drawnV d td).toArray dk) :: rest) → Q .next { s with heap := h', toks := tk }) :
   wpAny (model PG w) (callerA.deeper (lawEnv h₀.objs.size fa cdv)) (execs ([lawAt 5]) (lawEnv h₀.objs.size fa cdv)) Q E s := by
  w_on
  replace F := Fr_knows F [((Str.ofString "drawn"), .ref dl)] (kn1 e_drawn kn0)
  dsimp only [know] at F
  dsimp only [lawEnv, PG, KG, VG, S] at *
  conv in (occs := *) lawScope => all_goals whnf
  conv in (lawAt _) => whnf
  k_steps
  refine go ?_
  rename Fr _ _ _ _ => F2
  rename News _ _ _ _ => N2
  refine LSm.sum_ints (s := ⟨_, _, _, _, _⟩) F2 N2 (by rfl) (News_isList N2 (.head _)) (drawn_are d td) ?_
  intro h5 tk5 t5 F5 N5
  clear F2 N2
  k_steps
  rename Fr _ _ _ _ => F7
  rename News _ _ _ _ => N7
  refine done _ _ _ _ _ rfl (fun y hy => ?_) F7 N7
  rw [if_neg hy]
  exact know_if e_drawn rfl
set_option maxRecDepth 100000 in
set_option maxHeartbeats 0 in
set_option pp.maxSteps 100000 in
theorem order_step {mean : ExcName → Option Value} {loose : List Str} {mg mb : Str → Option Value} (w : World) (h₀ : Heap) (fa : Addr) (cdv : Value) (m : Str → Option Value) (s : Shared) (Q : Flow → Shared → Prop) (E : Value → Shared → Prop)
   (KX : (KG w.params).In h₀) (T : Top VG loose mean mg mb h₀) (K0 : Below callerA h₀ [] h₀) (hE : PassesOwn (model PG w) (callerA.deeper (lawEnv h₀.objs.size fa cdv)) (lawEnv h₀.objs.size fa cdv) E)
   (rest : List (Addr × Obj))
   
   (F : Fr h₀ h₀.objs.size s.heap m)
   (N : News h₀ h₀.objs.size s.heap (rest))
   (done : ∀ h' tk m' ol ok, (m' (Str.ofString "order") = some (.ref ol)) → ((∀ y, y ≠ Str.ofString "order" → m' y = m y)) → (∀ p ∈ rest, p.1 < ol) → Fr h₀ h₀.objs.size h' m' → News h₀ h₀.objs.size h' ((ol, W.listOf ([] : List Value).toArray ok) :: rest) → Q .next { s with heap := h', toks := tk }) :
   wpAny (model PG w) (callerA.deeper (lawEnv h₀.objs.size fa cdv)) (execs ([lawAt 6]) (lawEnv h₀.objs.size fa cdv)) Q E s := by
  w_on
  dsimp only [lawEnv, PG, KG, VG, S] at *
  conv in (occs := *) lawScope => all_goals whnf
  conv in (lawAt _) => whnf
  k_steps
  rename Fr _ _ _ _ => F7
  rename News _ _ _ _ => N7
  refine done _ _ _ _ _ rfl (fun y hy => if_neg hy) ?_ F7 N7
  assumption
end Mine
end
section
open PySem PySem.W PySem.Calls PyProof.Rows
namespace Mine
theorem fillP3 : (PySem.Challenge.rw_ty0055_01, Mine.hd.heap_1) = (PySem.Challenge.rw_ty0055_01, Mine.hd.heap_1) := by
  k_fill
  rfl
local macro_rules | `(tactic| walk_at "call ref") => `(tactic| ((with_reducible show wpAny _ _ (call (Value.ref 73) _ _) _ _ _); refine halt ?_))

local macro_rules | `(tactic| walk_at "exec For Name Call cons nil") => `(tactic| ((with_reducible show wpAny _ _ (exec (Stmt.For _ _ _ _ _) _) _ _ _); refine halt ?_))
theorem drawn_at (d : F6 → Int) (t : F6 → Tok) (p : F6) : (drawnV d t)[((p.val : Nat) : Int).toNat]? = some (.int (d p) (t p)) := by
  match p with
  | 0 => rfl
  | 1 => rfl
  | 2 => rfl
  | 3 => rfl
  | 4 => rfl
  | 5 => rfl
theorem pairs_at' (pu : F6 → Tok) (p : F6) : (pairsV pu)[((p.val : Nat) : Int).toNat]? = some (.str (pairS p) (pu p)) := pairs_at pu p
section
variable {prog : Program} {w : World} {A : Around} {E : Value → Shared → Prop} {s : Shared} {value slice : Expr} {l : Addr} {ep : Nat} {p : F6} {u : Tok} {Q : Value → Shared → Prop} {h₀ : Heap} {L : Addr} {news : List (Addr × Obj)}
theorem drawn_item {d : F6 → Int} {t : F6 → Tok} (N : News h₀ L s.heap news) (hm : (l, W.listOf (drawnV d t).toArray ep) ∈ news) (h : Q (.int (d p) (t p)) s)
    (hs : subscripted slice false (.ref l) (.int p.val u) = operate [.ref l, .int p.val u] (getItem (.ref l) (.int p.val u)) := by with_unfolding_all rfl) :
    wpAny (model prog w) A (subscriptTail value slice (.ref l) (.int p.val u)) Q E s :=
  item_any (News_isList N hm) (by omega) (by have := p.isLt; omega) (drawn_at d t p) h hs
theorem pairs_item {pu : F6 → Tok} (N : News h₀ L s.heap news) (hm : (l, W.listOf (pairsV pu).toArray ep) ∈ news) (h : Q (.str (pairS p) (pu p)) s)
    (hs : subscripted slice false (.ref l) (.int p.val u) = operate [.ref l, .int p.val u] (getItem (.ref l) (.int p.val u)) := by with_unfolding_all rfl) :
    wpAny (model prog w) A (subscriptTail value slice (.ref l) (.int p.val u)) Q E s :=
  item_any (News_isList N hm) (by omega) (by have := p.isLt; omega) (pairs_at' pu p) h hs
end
local macro_rules | `(tactic| walk_at "subscriptTail Name Name ref int") => `(tactic| ((with_reducible show wpAny _ _ (subscriptTail _ _ (Value.ref _) (Value.int (Nat.cast (Fin.val _)) _)) _ _ _); (rename News _ _ _ _ => Nz); (first | refine drawn_item Nz (by repeat first | exact List.Mem.head _ | refine List.Mem.tail _ ?_) ?_ | refine pairs_item Nz (by repeat first | exact List.Mem.head _ | refine List.Mem.tail _ ?_) ?_); (try dsimp only)))
theorem rows_insert {rest : List (Addr × Obj)} {vs : List Value} {es : List (Int × Str)} (R : Mine.Rows rest vs es) {a : Addr} {tk u : Tok} {n r : Nat} {e : Int × Str} (hr : r ≤ es.length) (hm : (a, tupO [.int e.1 tk, .str e.2 u] n) ∈ rest) :
    Mine.Rows rest (vs.take r ++ .ref a :: vs.drop r) (es.take r ++ e :: es.drop r) := by
  have hl := R.len
  refine ⟨by simp [hl], fun i v e' hv he => ?_⟩
  have l1 : (vs.take r).length = r := by rw [List.length_take]; omega
  have l2 : (es.take r).length = r := by rw [List.length_take]; omega
  rcases Nat.lt_trichotomy i r with h | h | h
  · rw [List.getElem?_append_left (by omega), List.getElem?_take_of_lt h] at hv he
    exact R.at_ i v e' hv he
  · subst h
    rw [List.getElem?_append_right (by omega), l1, Nat.sub_self] at hv
    rw [List.getElem?_append_right (by omega), l2, Nat.sub_self] at he
    simp at hv he
    subst hv he
    exact ⟨a, tk, u, n, rfl, hm⟩
  · obtain ⟨j, rfl⟩ : ∃ j, i = r + j + 1 := ⟨i - r - 1, by omega⟩
    rw [List.getElem?_append_right (by omega), l1, show r + j + 1 - r = j + 1 by omega, List.getElem?_cons_succ, List.getElem?_drop] at hv
    rw [List.getElem?_append_right (by omega), l2, show r + j + 1 - r = j + 1 by omega, List.getElem?_cons_succ, List.getElem?_drop] at he
    exact R.at_ _ v e' hv he
theorem sorted_insert {es : List (Int × Str)} {e : Int × Str} {r : Nat} (hs : es.Pairwise (fun a b => a.1 ≤ b.1)) (hr : r ≤ es.length) (h1 : ∀ i (h : i < es.length), i < r → es[i].1 < e.1) (h2 : ∀ i (h : i < es.length), r ≤ i → e.1 ≤ es[i].1) : (es.take r ++ e :: es.drop r).Pairwise (fun a b => a.1 ≤ b.1) := by
  have hp : (es.take r ++ es.drop r).Pairwise (fun a b => a.1 ≤ b.1) := by rw [List.take_append_drop]; exact hs
  rw [List.pairwise_append] at hp ⊢
  obtain ⟨p1, p2, p3⟩ := hp
  have a1 : ∀ x ∈ es.take r, x.1 < e.1 := fun x hx => by
    obtain ⟨j, hj, rfl⟩ := List.getElem_of_mem hx
    rw [List.length_take] at hj
    rw [List.getElem_take]
    exact h1 j (by omega) (by omega)
  have a2 : ∀ x ∈ es.drop r, e.1 ≤ x.1 := fun x hx => by
    obtain ⟨j, hj, rfl⟩ := List.getElem_of_mem hx
    rw [List.length_drop] at hj
    rw [List.getElem_drop]
    exact h2 _ (by omega) (by omega)
  refine ⟨p1, List.pairwise_cons.mpr ⟨a2, p2⟩, fun x hx y hy => ?_⟩
  rcases List.mem_cons.mp hy with rfl | hy
  · exact Int.le_of_lt (a1 x hx)
  · exact p3 x hx y hy
theorem perm_insert {l : List F6} {p : F6} (r : Nat) : (l.take r ++ p :: l.drop r).Perm (l ++ [p]) := by
  have h := List.perm_middle (a := p) (l₁ := l.take r) (l₂ := l.drop r)
  rw [List.take_append_drop] at h
  exact h.trans (List.perm_append_singleton p l).symm
noncomputable def esOf (d : F6 → Int) (ord : List F6) : List (Int × Str) := ord.map fun p => (d p, pairS p)
theorem fin6 {i : Nat} (h : i < 6) : ∃ p : F6, p.val = i ∧ allP[i]? = some p := by
  match i, h with
  | 0, _ => exact ⟨0, rfl, rfl⟩
  | 1, _ => exact ⟨1, rfl, rfl⟩
  | 2, _ => exact ⟨2, rfl, rfl⟩
  | 3, _ => exact ⟨3, rfl, rfl⟩
  | 4, _ => exact ⟨4, rfl, rfl⟩
  | 5, _ => exact ⟨5, rfl, rfl⟩
set_option maxRecDepth 100000 in
set_option maxHeartbeats 0 in
set_option pp.maxSteps 100000 in
theorem insort_loop {mean : ExcName → Option Value} {loose : List Str} {mg mb : Str → Option Value} (w : World) (h₀ : Heap) (fa : Addr) (cdv : Value) (m : Str → Option Value) (s : Shared) (Q : Flow → Shared → Prop) (E : Value → Shared → Prop)
   (KX : (KG w.params).In h₀) (T : Top VG loose mean mg mb h₀) (K0 : Below callerA h₀ [] h₀) (hE : PassesOwn (model PG w) (callerA.deeper (lawEnv h₀.objs.size fa cdv)) (lawEnv h₀.objs.size fa cdv) E)
   (o1 o2 o3 o4 o5 : Obj) (dl pl ol : Addr) (dk pk ok : Nat) (d : F6 → Int) (td pu : F6 → Tok) (rest : List (Addr × Obj)) (ho1 : o1.data = .cell (some (.ref pl))) (hno : ∀ q ∈ (dl, W.listOf (drawnV d td).toArray dk) :: (pl, W.listOf (pairsV pu).toArray pk) :: (h₀.objs.size + 1 + 1 + 1 + 1 + 1, o5) :: (h₀.objs.size + 1 + 1 + 1 + 1, o4) :: (h₀.objs.size + 1 + 1 + 1, o3) :: (h₀.objs.size + 1 + 1, o2) :: (h₀.objs.size + 1, o1) :: rest, q.1 ≠ ol)
    (e_order : m (Str.ofString "order") = some (.ref ol)) (e_depths : m (Str.ofString "depths") = some (.ref dl))
   (F : Fr h₀ h₀.objs.size s.heap m)
   (N : News h₀ h₀.objs.size s.heap ((ol, W.listOf ([] : List Value).toArray ok) :: (dl, W.listOf (drawnV d td).toArray dk) :: (pl, W.listOf (pairsV pu).toArray pk) :: (h₀.objs.size + 1 + 1 + 1 + 1 + 1, o5) :: (h₀.objs.size + 1 + 1 + 1 + 1, o4) :: (h₀.objs.size + 1 + 1 + 1, o3) :: (h₀.objs.size + 1 + 1, o2) :: (h₀.objs.size + 1, o1) :: rest))
   (done : ∀ h' tk m' vs ep ord tups, (Mine.Rows (tups ++ ((dl, W.listOf (drawnV d td).toArray dk) :: (pl, W.listOf (pairsV pu).toArray pk) :: (h₀.objs.size + 1 + 1 + 1 + 1 + 1, o5) :: (h₀.objs.size + 1 + 1 + 1 + 1, o4) :: (h₀.objs.size + 1 + 1 + 1, o3) :: (h₀.objs.size + 1 + 1, o2) :: (h₀.objs.size + 1, o1) :: rest)) vs (esOf d ord)) → ((esOf d ord).Pairwise (fun a b => a.1 ≤ b.1)) → (ord.Perm (allP.take 6)) → ((∀ p ∈ tups, p.1 ≠ ol ∧ ∀ q ∈ (dl, W.listOf (drawnV d td).toArray dk) :: (pl, W.listOf (pairsV pu).toArray pk) :: (h₀.objs.size + 1 + 1 + 1 + 1 + 1, o5) :: (h₀.objs.size + 1 + 1 + 1 + 1, o4) :: (h₀.objs.size + 1 + 1 + 1, o3) :: (h₀.objs.size + 1 + 1, o2) :: (h₀.objs.size + 1, o1) :: rest, p.1 ≠ q.1)) → (∀ y, y ≠ Str.ofString "i" → m' y = m y) → Fr h₀ h₀.objs.size h' m' → News h₀ h₀.objs.size h' ((ol, W.listOf vs.toArray ep) :: (tups ++ ((dl, W.listOf (drawnV d td).toArray dk) :: (pl, W.listOf (pairsV pu).toArray pk) :: (h₀.objs.size + 1 + 1 + 1 + 1 + 1, o5) :: (h₀.objs.size + 1 + 1 + 1 + 1, o4) :: (h₀.objs.size + 1 + 1 + 1, o3) :: (h₀.objs.size + 1 + 1, o2) :: (h₀.objs.size + 1, o1) :: rest))) → Q .next { s with heap := h', toks := tk }) :
   wpAny (model PG w) (callerA.deeper (lawEnv h₀.objs.size fa cdv)) (execs ([lawAt 7]) (lawEnv h₀.objs.size fa cdv)) Q E s := by
  w_on
  replace F := Fr_knows F [((Str.ofString "order"), .ref ol), ((Str.ofString "depths"), .ref dl)] (kn1 e_order (kn1 e_depths kn0))
  dsimp only [know] at F
  dsimp only [lawEnv, PG, KG, VG, S] at *
  conv in (occs := *) lawScope => all_goals whnf
  conv in (lawAt _) => whnf
  k_steps
  refine go ?_
  refine For_src F (by intro _; with_unfolding_all rfl) hE ?_
  k_steps
  rename IsRange _ _ _ _ _ _ _ _ => HR
  rename Fr _ _ _ _ => F2
  rename News _ _ _ _ => N2
  refine SrcLoop.mk [] 6 _ _ _ (fun i m₁ nw => ∃ vs ep ord tups, nw = (ol, W.listOf vs.toArray ep) :: (tups ++ ((dl, W.listOf (drawnV d td).toArray dk) :: (pl, W.listOf (pairsV pu).toArray pk) :: (h₀.objs.size + 1 + 1 + 1 + 1 + 1, o5) :: (h₀.objs.size + 1 + 1 + 1 + 1, o4) :: (h₀.objs.size + 1 + 1 + 1, o3) :: (h₀.objs.size + 1 + 1, o2) :: (h₀.objs.size + 1, o1) :: rest)) ∧ Mine.Rows (tups ++ ((dl, W.listOf (drawnV d td).toArray dk) :: (pl, W.listOf (pairsV pu).toArray pk) :: (h₀.objs.size + 1 + 1 + 1 + 1 + 1, o5) :: (h₀.objs.size + 1 + 1 + 1 + 1, o4) :: (h₀.objs.size + 1 + 1 + 1, o3) :: (h₀.objs.size + 1 + 1, o2) :: (h₀.objs.size + 1, o1) :: rest)) vs (esOf d ord) ∧ (esOf d ord).Pairwise (fun a b => a.1 ≤ b.1) ∧ ord.Perm (allP.take i) ∧ (∀ p ∈ tups, p.1 ≠ ol ∧ ∀ q ∈ (dl, W.listOf (drawnV d td).toArray dk) :: (pl, W.listOf (pairsV pu).toArray pk) :: (h₀.objs.size + 1 + 1 + 1 + 1 + 1, o5) :: (h₀.objs.size + 1 + 1 + 1 + 1, o4) :: (h₀.objs.size + 1 + 1 + 1, o3) :: (h₀.objs.size + 1 + 1, o2) :: (h₀.objs.size + 1, o1) :: rest, p.1 ≠ q.1) ∧ ∀ y, y ≠ Str.ofString "i" → m₁ y = m y) (SrcAt.range (by rfl) HR rfl rfl) (fun _ _ _ _ _ h => (nomatch h)) F2 N2 ⟨[], ok, [], [], rfl, ⟨rfl, fun _ _ _ h _ => by simp at h⟩, .nil, .nil, (fun _ h => nomatch h), fun y hy => ?_⟩ ?_ ?_
  · try dsimp only
    refine know_if e_order ?_
    exact know_if e_depths rfl
  · clear HR F2 N2
    rintro i v m₁ nw h tk I o hi ⟨ti, rfl⟩ ⟨vs, ep, ord, tups, rfl, R, hs, hp, ht, hm⟩ hI F N
    obtain ⟨p, rfl, hpi⟩ := fin6 hi
    rw [Int.zero_add]
    change Fr h₀ h₀.objs.size h m₁ at F
    change News h₀ h₀.objs.size h _ at N
    have eo : m₁ (Str.ofString "order") = some (.ref ol) := (hm _ (by decide)).trans e_order
    have ed : m₁ (Str.ofString "depths") = some (.ref dl) := (hm _ (by decide)).trans e_depths
    replace F := Fr_knows F [(Str.ofString "order", .ref ol), (Str.ofString "depths", .ref dl)] (kn1 eo (kn1 ed kn0))
    dsimp only [know] at F
    have hol6 : ord.length ≤ 6 := by
      rw [hp.length_eq, List.length_take]
      exact Nat.le_trans (Nat.min_le_right _ _) (Nat.le_refl 6)
    have nb : ∀ q ∈ tups ++ ((dl, W.listOf (drawnV d td).toArray dk) :: (pl, W.listOf (pairsV pu).toArray pk) :: (h₀.objs.size + 1 + 1 + 1 + 1 + 1, o5) :: (h₀.objs.size + 1 + 1 + 1 + 1, o4) :: (h₀.objs.size + 1 + 1 + 1, o3) :: (h₀.objs.size + 1 + 1, o2) :: (h₀.objs.size + 1, o1) :: rest), q.1 ≠ ol := fun q hq => by
      rcases List.mem_append.mp hq with hq | hq
      · exact (ht q hq).1
      · exact hno q hq
    have N3 := News_sub N (news' := (dl, W.listOf (drawnV d td).toArray dk) :: (pl, W.listOf (pairsV pu).toArray pk) :: (h₀.objs.size + 1, o1) :: (I, o) :: (ol, W.listOf vs.toArray ep) :: (tups ++ ((dl, W.listOf (drawnV d td).toArray dk) :: (pl, W.listOf (pairsV pu).toArray pk) :: (h₀.objs.size + 1 + 1 + 1 + 1 + 1, o5) :: (h₀.objs.size + 1 + 1 + 1 + 1, o4) :: (h₀.objs.size + 1 + 1 + 1, o3) :: (h₀.objs.size + 1 + 1, o2) :: (h₀.objs.size + 1, o1) :: rest))) (sub_cons (.tail _ (.tail _ (List.mem_append_right _ (.head _)))) (sub_cons (.tail _ (.tail _ (List.mem_append_right _ (.tail _ (.head _))))) (sub_cons (.tail _ (.tail _ (List.mem_append_right _ (.tail _ (.tail _ (.tail _ (.tail _ (.tail _ (.tail _ (.head _)))))))))) (fun q hq => hq))))
    clear N
    generalize hxs : tups ++ ((dl, W.listOf (drawnV d td).toArray dk) :: (pl, W.listOf (pairsV pu).toArray pk) :: (h₀.objs.size + 1 + 1 + 1 + 1 + 1, o5) :: (h₀.objs.size + 1 + 1 + 1 + 1, o4) :: (h₀.objs.size + 1 + 1 + 1, o3) :: (h₀.objs.size + 1 + 1, o2) :: (h₀.objs.size + 1, o1) :: rest) = xs at *
    k_steps
    refine go ?_
    rename Fr _ _ _ _ => F4
    rename News _ _ _ _ => N4
    rename Addr => TD
    have l1 : dl < TD ∧ pl < TD ∧ h₀.objs.size + 1 < TD ∧ I < TD ∧ ol < TD ∧ AllLt TD xs := by assumption
    have hlx := allLt_mem l1.2.2.2.2.2
    have hle : (esOf d ord).length ≤ 6 := by rw [esOf, List.length_map]; exact hol6
    have N5 := News_sub N4 (news' := (ol, W.listOf vs.toArray ep) :: (TD, tupO [Value.int (d p) (td p), Value.str (pairS p) (pu p)] 0) :: (I, o) :: xs) (sub_cons (.tail _ (.tail _ (.tail _ (.tail _ (.tail _ (.head _)))))) (sub_cons (.head _) (sub_cons (.tail _ (.tail _ (.tail _ (.tail _ (.head _))))) (fun q hq => .tail _ (.tail _ (.tail _ (.tail _ (.tail _ (.tail _ hq)))))))))
    refine CallSpec.use (insort_spec w ol TD vs ep 0 ((TD, tupO [Value.int (d p) (td p), Value.str (pairS p) (pu p)] 0) :: (I, o) :: xs) (esOf d ord) (d p) (pairS p) (td p) (pu p) (by omega) (R.mono fun q hq => .tail _ (.tail _ hq)) hs ?_ (.head _)) (by assumption) F4 (by assumption) N5 (by assumption) rfl rfl ?_ ?_ ?_
    · exact sub_c1 (P := fun a => a ≠ ol) (Nat.ne_of_gt l1.2.2.2.2.1) (sub_c1 (P := fun a => a ≠ ol) (fun e => hI (ol, W.listOf vs.toArray ep) (.head _) e.symm) nb)
    · ktr_room
    · ktr_units
    rintro v nw h' tk' ⟨rfl, r, ep2, hr, hlo, hhi, rfl⟩ F6 N6
    clear F4 N4 N5
    k_steps
    rename Fr _ _ _ _ => F7
    rename News _ _ _ _ => N7
    have hr' : r ≤ ord.length := by rw [esOf, List.length_map] at hr; exact hr
    have ees : (esOf d ord).take r ++ (d p, pairS p) :: (esOf d ord).drop r = esOf d (ord.take r ++ p :: ord.drop r) := by simp [esOf, List.map_take, List.map_drop]
    have R2 := rows_insert (R.mono (fun q hq => List.Mem.tail (TD, tupO [Value.int (d p) (td p), Value.str (pairS p) (pu p)] 0) hq)) (e := (d p, pairS p)) hr (.head _)
    rw [ees] at R2
    have hs2 := sorted_insert (e := (d p, pairS p)) hs hr hlo hhi
    rw [ees] at hs2
    subst hxs
    refine TurnU.intro F7 (nw := (ol, W.listOf (vs.take r ++ .ref TD :: vs.drop r).toArray ep2) :: (((TD, tupO [Value.int (d p) (td p), Value.str (pairS p) (pu p)] 0) :: tups) ++ ((dl, W.listOf (drawnV d td).toArray dk) :: (pl, W.listOf (pairsV pu).toArray pk) :: (h₀.objs.size + 1 + 1 + 1 + 1 + 1, o5) :: (h₀.objs.size + 1 + 1 + 1 + 1, o4) :: (h₀.objs.size + 1 + 1 + 1, o3) :: (h₀.objs.size + 1 + 1, o2) :: (h₀.objs.size + 1, o1) :: rest))) (News_sub N7 ?_) ?_ ⟨_, ep2, ord.take r ++ p :: ord.drop r, (TD, tupO [Value.int (d p) (td p), Value.str (pairS p) (pu p)] 0) :: tups, rfl, R2, hs2, ?_, ?_, fun y hy => ?_⟩
    · exact sub_cons (.tail _ (.tail _ (.head _))) (sub_cons (.head _) (sub_cons (.tail _ (.head _)) (fun q hq => .tail _ (.tail _ (.tail _ hq)))))
    · exact sub_c1 (P := fun a => a ≠ I) (hI (ol, W.listOf vs.toArray ep) (.head _)) (sub_c1 (P := fun a => a ≠ I) (Nat.ne_of_gt l1.2.2.2.1) (fun q hq => hI q (.tail _ hq)))
    · rw [take_snoc hpi]
      exact (perm_insert r).trans (hp.append_right [p])
    · intro q hq
      rcases List.mem_cons.mp hq with rfl | hq
      · exact ⟨Nat.ne_of_gt l1.2.2.2.2.1, fun q' hq' => Nat.ne_of_gt (hlx q' (List.mem_append_right _ hq'))⟩
      · exact ht q hq
    · try dsimp only
      rw [if_neg hy]
      exact (know_if eo (know_if ed rfl)).trans (hm y hy)
  · rintro h' tk m' nw F4 N4 ⟨vs, ep, ord, tups, rfl, hp1, hp2, hp3, hp4, hp5⟩
    k_steps
    exact done _ _ _ vs ep ord tups hp1 hp2 hp3 hp4 hp5 F4 N4
end Mine
end
section
open PySem PySem.W PySem.Calls PyProof.Rows
namespace Mine
theorem fillK1 : (PySem.Challenge.rw_ty0055_01, Mine.hd.heap_1) = (PySem.Challenge.rw_ty0055_01, Mine.hd.heap_1) := by
  k_fill
  rfl

noncomputable def two (i j : F4) : Str := ⟨#[codeL i, codeL j]⟩
theorem pair_two : ∀ p, pairS p = two (fstP p) (sndP p) := by decide +kernel
theorem two_add : ∀ i j, ltr false i ++ ltr false j = two i j := by decide +kernel
theorem two_inj : ∀ i j k l, two i j = two k l → i = k ∧ j = l := by decide +kernel
theorem valueAt_stored' (kvs : List (Str × Value)) (k : Str) (v : Value) (x : Str) : valueAt (stored kvs k v) x = if x = k then some v else valueAt kvs x := by
  unfold stored
  split
  · rename_i h
    induction kvs with
    | nil => simp at h
    | cons q r ih =>
      rw [List.map_cons]
      by_cases hq : q.1 = k
      · by_cases hx : x = k
        · subst hx
          simp [valueAt, hq]
        · have : ∀ r : List (Str × Value), valueAt (r.map fun kv => if kv.1 = k then (kv.1, v) else kv) x = valueAt r x := by
            intro r
            induction r with
            | nil => rfl
            | cons a r ih =>
              simp only [valueAt, List.map_cons, List.find?_cons] at ih ⊢
              by_cases ha : a.1 = k
              · have hn : ¬ k = x := fun e => hx e.symm
                simp only [ha, if_true, decide_eq_false hn]
                exact ih
              · simp only [ha, if_false]
                by_cases hax : a.1 = x
                · simp [hax]
                · simp only [decide_eq_false hax]
                  exact ih
          have hn : ¬ k = x := fun e => hx e.symm
          rw [if_neg hx]
          simp only [valueAt, List.find?_cons, hq, if_true, decide_eq_false hn] at this ⊢
          exact this r
      · have h2 : r.any (fun kv => kv.1 = k) = true := by simpa [hq] using h
        have := ih h2
        simp only [valueAt, List.find?_cons, hq, if_false] at this ⊢
        by_cases hqx : q.1 = x
        · have : ¬ x = k := fun e => hq (hqx.trans e)
          simp [hqx, this]
        · simp only [decide_eq_false hqx]
          exact this
  · rename_i h
    have hn : valueAt kvs k = none := by
      have : ∀ q ∈ kvs, ¬ q.1 = k := fun q hq e => h (List.any_eq_true.mpr ⟨q, hq, by simpa using e⟩)
      unfold valueAt
      rw [List.find?_eq_none.mpr (fun q hq => by simpa using this q hq)]
      rfl
    by_cases hx : x = k
    · subst hx
      rw [if_pos rfl]
      unfold valueAt at hn ⊢
      have : kvs.find? (fun kv => kv.1 = x) = none := by simpa using hn
      rw [List.find?_append, this]
      simp
    · rw [if_neg hx]
      unfold valueAt
      have hn : ¬ k = x := fun e => hx e.symm
      rw [List.find?_append]
      simp [hn]
theorem stored_len (kvs : List (Str × Value)) (k : Str) (v : Value) : (stored kvs k v).length ≤ kvs.length + 1 := by
  unfold stored
  split
  · simp
  · simp
section
variable {prog : Program} {w : World} {A : Around} {E : Value → Shared → Prop} {s : Shared} {h₀ : Heap} {L : Addr} {m : Str → Option Value} {news : List (Addr × Obj)} {kd : Addr} {o : Obj} {kvs : List (Str × Value)} {x : Str} {t : Tok}
theorem empty_dict (n : Nat) : (dictOf [] n).IsDictOf (PySem.strKind prog w) [] := ⟨#[], n, ⟨rfl, rfl, rfl⟩, rfl, (fun _ h => by simp at h), .nil, List.nodup_nil⟩
theorem dict_set {v : Value} {Q : Unit → Shared → Prop} (F : Fr h₀ L s.heap m) (N : News h₀ L s.heap ((kd, o) :: news)) (hne : ∀ p ∈ news, p.1 ≠ kd) (hd : o.IsDictOf (PySem.strKind prog w) kvs) (hl : kvs.length ≤ 100)
   (h : ∀ h' o', Fr h₀ L h' m → News h₀ L h' ((kd, o') :: news) → o'.IsDictOf (PySem.strKind prog w) (stored kvs x v) → Q () { s with heap := h', toks := s.toks + 1 }) : wpAny (model prog w) A (setItem (.ref kd) (.str x t) v) Q E s := by
  have hk := N _ (.head _)
  refine wpAny_setItem_pairs (knd := PySem.strKind prog w) (kvs := kvs) (strKind_is _ _ _ _) (Heap.dictOf_iff.mpr ⟨o, hk.1, hd⟩) (fun h' hd' hsb => ?_) (hsz := by rw [sizeLine_eq]; omega)
  obtain ⟨o', ho', hdo'⟩ := Heap.dictOf_iff.mp hd'
  refine h h' o' (F.change hsb hk.2.1 hk.2.2) (fun p hp => ?_) hdo'
  rcases List.mem_cons.mp hp with rfl | hp
  · exact ⟨ho', hk.2⟩
  · exact ⟨hsb.extBut _ _ (hne p hp) (N p (.tail _ hp)).1, (N p (.tail _ hp)).2⟩
theorem dict_get {value slice : Expr} {v : Value} {Q : Value → Shared → Prop} (N : News h₀ L s.heap news) (hm : (kd, o) ∈ news) (hd : o.IsDictOf (PySem.strKind prog w) kvs) (hv : valueAt kvs x = some v) (h : Q v { s with toks := s.toks + 1 })
    (hs : subscripted slice false (.ref kd) (.str x t) = operate [.ref kd, .str x t] (getItem (.ref kd) (.str x t)) := by with_unfolding_all rfl) :
    wpAny (model prog w) A (subscriptTail value slice (.ref kd) (.str x t)) Q E s := by
  have hD : s.heap.DictOf (PySem.strKind prog w) kd kvs := Heap.dictOf_iff.mpr ⟨o, (N _ hm).1, hd⟩
  exact tail_any hD.typeIs slot_dict_getitem.lookup (wpAny_getItem_of (strKind_is _ _ _ _) hD.mapOf hv h) hs
end
end Mine
end
section
open PySem PySem.W PySem.Calls PyProof.Rows
namespace Mine
theorem fillK2 : (PySem.Challenge.rw_ty0055_01, Mine.hd.heap_1) = (PySem.Challenge.rw_ty0055_01, Mine.hd.heap_1) := by
  k_fill
  rfl

local macro_rules | `(tactic| walk_at "exec For Name Call cons nil") => `(tactic| ((with_reducible show wpAny _ _ (exec (Stmt.For _ _ _ _ _) _) _ _ _); refine halt ?_))
local macro_rules | `(tactic| walk_at "subscriptTail") => `(tactic| ((with_reducible show wpAny _ _ (subscriptTail _ _ (Value.str (pairS _) _) (Value.int 0 _)) _ _ _); refine pair_item0 ?_; (try dsimp only)))
local macro_rules | `(tactic| walk_at "subscriptTail") => `(tactic| ((with_reducible show wpAny _ _ (subscriptTail _ _ (Value.str (pairS _) _) (Value.int 1 _)) _ _ _); refine pair_item1 ?_; (try dsimp only)))
local macro_rules | `(tactic| walk_at "subscriptTail Name Name ref int") => `(tactic| ((with_reducible show wpAny _ _ (subscriptTail _ _ (Value.ref _) (Value.int (Nat.cast (Fin.val _)) _)) _ _ _); (rename News _ _ _ _ => Nz); (first | refine drawn_item Nz (by repeat first | exact List.Mem.head _ | refine List.Mem.tail _ ?_) ?_ | refine pairs_item Nz (by repeat first | exact List.Mem.head _ | refine List.Mem.tail _ ?_) ?_); (try dsimp only)))
/-- what the table tells -/
noncomputable def KnowsD (d : F6 → Int) (kvs : List (Str × Value)) : Prop := ∀ i j, i ≠ j → ∃ t, valueAt kvs (two i j) = some (.int (d (pairOf i j)) t)
noncomputable def KnowsI (d : F6 → Int) (n : Nat) (kvs : List (Str × Value)) : Prop := kvs.length ≤ 2 * n ∧ ∀ p : F6, p.val < n → (∃ t, valueAt kvs (two (fstP p) (sndP p)) = some (.int (d p) t)) ∧ ∃ t, valueAt kvs (two (sndP p) (fstP p)) = some (.int (d p) t)
theorem fs_ne : ∀ p, fstP p ≠ sndP p := by decide
theorem fs_inj : ∀ p q, fstP p = fstP q → sndP p = sndP q → p = q := by decide
theorem fs_cross : ∀ p q, fstP p = sndP q → sndP p = fstP q → False := by decide
theorem knows_step {d : F6 → Int} {kvs : List (Str × Value)} {p : F6} {t1 t2 : Tok} (h : KnowsI d p.val kvs) : KnowsI d (p.val + 1) (stored (stored kvs (two (fstP p) (sndP p)) (.int (d p) t1)) (two (sndP p) (fstP p)) (.int (d p) t2)) := by
  refine ⟨?_, fun q hq => ?_⟩
  · have h1 := stored_len kvs (two (fstP p) (sndP p)) (.int (d p) t1)
    have h2 := stored_len (stored kvs (two (fstP p) (sndP p)) (.int (d p) t1)) (two (sndP p) (fstP p)) (.int (d p) t2)
    have := h.1
    omega
  · rw [valueAt_stored', valueAt_stored', valueAt_stored', valueAt_stored']
    by_cases e : q = p
    · subst e
      rw [if_pos rfl]
      by_cases e2 : two (fstP q) (sndP q) = two (sndP q) (fstP q)
      · exact absurd (two_inj _ _ _ _ e2).1 (fs_ne q)
      · rw [if_neg e2, if_pos rfl]
        exact ⟨⟨_, rfl⟩, ⟨_, rfl⟩⟩
    · have hlt : q.val < p.val := by
        rcases Nat.lt_or_ge q.val p.val with h | h
        · exact h
        · exact absurd (Fin.ext (by omega)) e
      have n1 : ¬ two (fstP q) (sndP q) = two (sndP p) (fstP p) := fun e2 => fs_cross q p (two_inj _ _ _ _ e2).1 (two_inj _ _ _ _ e2).2
      have n2 : ¬ two (fstP q) (sndP q) = two (fstP p) (sndP p) := fun e2 => e (fs_inj q p (two_inj _ _ _ _ e2).1 (two_inj _ _ _ _ e2).2)
      have n3 : ¬ two (sndP q) (fstP q) = two (sndP p) (fstP p) := fun e2 => e (fs_inj q p (two_inj _ _ _ _ e2).2 (two_inj _ _ _ _ e2).1)
      have n4 : ¬ two (sndP q) (fstP q) = two (fstP p) (sndP p) := fun e2 => fs_cross q p (two_inj _ _ _ _ e2).2 (two_inj _ _ _ _ e2).1
      rw [if_neg n1, if_neg n2, if_neg n3, if_neg n4]
      exact h.2 q hlt
theorem pairOf_cases : ∀ i j : F4, i ≠ j → (fstP (pairOf i j) = i ∧ sndP (pairOf i j) = j) ∨ (sndP (pairOf i j) = i ∧ fstP (pairOf i j) = j) := by decide
theorem knows_all {d : F6 → Int} {kvs : List (Str × Value)} (h : KnowsI d 6 kvs) : KnowsD d kvs := fun i j hij => by
  obtain ⟨a, b⟩ := h.2 (pairOf i j) (pairOf i j).isLt
  rcases pairOf_cases i j hij with ⟨e1, e2⟩ | ⟨e1, e2⟩
  · rw [e1, e2] at a; exact a
  · rw [e1, e2] at b; exact b
set_option maxRecDepth 100000 in
set_option maxHeartbeats 0 in
theorem both_spec (w : World) (dl pl : Addr) (dk pk : Nat) (d : F6 → Int) (td pu : F6 → Tok) (rest : List (Addr × Obj)) :
    CallSpec 2 w 254 [.ref pl, .ref dl] [] ((dl, W.listOf (drawnV d td).toArray dk) :: (pl, W.listOf (pairsV pu).toArray pk) :: rest) (fun v nw => ∃ kd o kvs, v = .ref kd ∧ nw = (kd, o) :: (dl, W.listOf (drawnV d td).toArray dk) :: (pl, W.listOf (pairsV pu).toArray pk) :: rest ∧ o.IsDictOf (PySem.strKind PG w) kvs ∧ KnowsD d kvs ∧ ∀ p ∈ (dl, W.listOf (drawnV d td).toArray dk) :: (pl, W.listOf (pairsV pu).toArray pk) :: rest, p.1 ≠ kd) := by
  intro mean loose mg mb dp un gd cn cs a ccd cl outer A₀ base h₀ L m s Q E B F KX N T hk hdp hun hret
  w_on
  dsimp only [PG, KG, VG, S] at *
  with_reducible (k_here; (with_reducible show wpAny _ (ktrTop _ _ _ _ _ _ _ _ _ _) _ _ _ _); (refine wpAny_call ?_); (k_dflt cell_enter))
  k_steps
  refine go ?_
  rename Fr _ _ _ _ => Fa
  refine For_src Fa (by intro _; with_unfolding_all rfl) (by passes_own) ?_
  k_steps
  rename IsRange _ _ _ _ _ _ _ _ => HR
  rename Fr _ _ _ _ => F2
  rename News _ _ _ _ => N2
  rename_i kd hA oA loA hsA fsA hiA fiA l1 hB FB NB hC tkC tC uC vC aC
  clear FB NB aC
  have hne : ∀ p ∈ (dl, W.listOf (drawnV d td).toArray dk) :: (pl, W.listOf (pairsV pu).toArray pk) :: rest, p.1 ≠ kd := by
    intro p hp
    rcases List.mem_cons.mp hp with rfl | hp
    · exact Nat.ne_of_lt l1.1
    rcases List.mem_cons.mp hp with rfl | hp
    · exact Nat.ne_of_lt l1.2.1
    · exact Nat.ne_of_lt (allLt_mem l1.2.2 p hp)
  refine SrcLoop.mk [] 6 _ _ _ (fun i m₁ nw => ∃ o kvs, nw = (kd, o) :: (dl, W.listOf (drawnV d td).toArray dk) :: (pl, W.listOf (pairsV pu).toArray pk) :: rest ∧ o.IsDictOf (PySem.strKind PG w) kvs ∧ KnowsI d i kvs ∧ m₁ (Str.ofString "pairs") = some (.ref pl) ∧ m₁ (Str.ofString "depths") = some (.ref dl) ∧ m₁ (Str.ofString "known") = some (.ref kd)) (SrcAt.range (by rfl) HR rfl rfl) (fun _ _ _ _ _ h => (nomatch h)) F2 N2 ⟨_, [], rfl, by assumption, ⟨Nat.le_refl _, fun p h => absurd h (Nat.not_lt_zero _)⟩, rfl, rfl, rfl⟩ ?_ ?_
  · clear HR F2 N2
    rintro i v m₁ nw h tk I o hi ⟨ti, rfl⟩ ⟨od, kvs, rfl, hdo, hkn, e1, e2, e3⟩ hI F N
    obtain ⟨p, rfl, hpi⟩ := fin6 hi
    rw [Int.zero_add]
    replace F := Fr_knows F [(Str.ofString "pairs", .ref pl), (Str.ofString "depths", .ref dl), (Str.ofString "known", .ref kd)] (kn1 e1 (kn1 e2 (kn1 e3 kn0)))
    dsimp only [know] at F
    replace N := News_sub N (news' := (dl, W.listOf (drawnV d td).toArray dk) :: (pl, W.listOf (pairsV pu).toArray pk) :: (kd, od) :: (I, o) :: rest) (sub_cons (.tail _ (.tail _ (.head _))) (sub_cons (.tail _ (.tail _ (.tail _ (.head _)))) (sub_cons (.tail _ (.head _)) (sub_cons (.head _) (fun q hq => .tail _ (.tail _ (.tail _ (.tail _ hq))))))))
    have hne2 : ∀ q ∈ (dl, W.listOf (drawnV d td).toArray dk) :: (pl, W.listOf (pairsV pu).toArray pk) :: (I, o) :: rest, q.1 ≠ kd := sub_c1 (P := fun a => a ≠ kd) (hne (dl, W.listOf (drawnV d td).toArray dk) (.head _)) (sub_c1 (P := fun a => a ≠ kd) (hne (pl, W.listOf (pairsV pu).toArray pk) (.tail _ (.head _))) (sub_c1 (P := fun a => a ≠ kd) (fun e => hI (kd, od) (.head _) e.symm) (fun q hq => hne q (.tail _ (.tail _ hq)))))
    have hlen := hkn.1
    have hp5 := p.isLt
    k_steps
    refine go ?_
    rename Fr _ _ _ _ => F4
    rename News _ _ _ _ => N4
    rw [pair_two]
    refine dict_set F4 (News_sub N4 (news' := (kd, od) :: (dl, W.listOf (drawnV d td).toArray dk) :: (pl, W.listOf (pairsV pu).toArray pk) :: (I, o) :: rest) ?_) hne2 hdo (by omega) ?_
    · exact sub_cons (.tail _ (.tail _ (.head _))) (sub_cons (.head _) (sub_cons (.tail _ (.head _)) (fun q hq => .tail _ (.tail _ (.tail _ hq)))))
    intro h5 od2 F5 N5 hdo2
    clear F4 N4
    try dsimp only
    k_steps
    refine go ?_
    refine PyProof.Rows.add_str ?_ (hsz := by rw [ltr_len, ltr_len, sizeLine_eq]; decide)
    intro t6 k6
    rw [two_add]
    try dsimp only
    k_steps
    refine go ?_
    have hl2 := stored_len kvs (two (fstP p) (sndP p)) (.int (d p) (td p))
    rename Fr _ _ _ _ => F9
    rename News _ _ _ _ => N9
    refine dict_set F9 N9 hne2 hdo2 (by omega) ?_
    intro h7 od3 F7 N7 hdo3
    clear F9 N9
    k_steps
    rename Fr _ _ _ _ => F8
    rename News _ _ _ _ => N8
    refine TurnU.intro F8 (nw := (kd, od3) :: (dl, W.listOf (drawnV d td).toArray dk) :: (pl, W.listOf (pairsV pu).toArray pk) :: rest) (News_sub N8 ?_) (sub_c1 (P := fun a => a ≠ I) (hI (kd, od) (.head _)) (fun q hq => hI q (.tail _ hq))) ⟨od3, _, rfl, hdo3, knows_step hkn, rfl, rfl, rfl⟩
    exact sub_cons (.tail _ (.tail _ (.tail _ (.head _)))) (sub_cons (.head _) (sub_cons (.tail _ (.head _)) (sub_cons (.tail _ (.tail _ (.head _))) (fun q hq => .tail _ (.tail _ (.tail _ (.tail _ hq)))))))
  · clear HR F2 N2
    rintro h' tk m' nw F4 N4 ⟨od, kvs, rfl, hdo, hkn, e1, e2, e3⟩
    replace F4 := Fr_knows F4 [(Str.ofString "known", .ref kd)] (kn1 e3 kn0)
    dsimp only [know] at F4
    k_steps
    rename Fr _ _ _ _ => F7
    rename News _ _ _ _ => N7
    exact hret _ _ _ _ ⟨kd, od, kvs, rfl, rfl, hdo, knows_all hkn, hne⟩ F7 N7
end Mine
end
section
open PySem PySem.W PySem.Calls PyProof.Rows
namespace Mine
theorem fillK3 : (PySem.Challenge.rw_ty0055_01, Mine.hd.heap_1) = (PySem.Challenge.rw_ty0055_01, Mine.hd.heap_1) := by
  k_fill
  rfl

local macro_rules | `(tactic| k_all) => `(tactic| first | with_reducible assumption | (refine restOff (by with_reducible assumption) ?_; (try dsimp only); omega))
local macro_rules | `(tactic| walk_at "exec For Name List cons nil") => `(tactic| ((with_reducible show wpAny _ _ (exec (Stmt.For _ _ _ _ _) _) _ _ _); refine halt ?_))
local macro_rules | `(tactic| walk_at "exec Assign cons ListComp") => `(tactic| (refine halt ?_))
local macro_rules | `(tactic| walk_at "eval ListComp") => `(tactic| (refine halt ?_))
local macro_rules | `(tactic| walk_at "binaryOp Add str str") => `(tactic| (refine halt ?_))
local macro_rules | `(tactic| walk_at "compareOp NotIn str str") => `(tactic| (refine halt ?_))
local macro_rules | `(tactic| walk_at "subscriptTail Name Constant str int") => `(tactic| ((with_reducible show wpAny _ _ (subscriptTail _ _ (Value.str (pairS _) _) (Value.int 0 _)) _ _ _); refine pair_item0 ?_; (try dsimp only)))
local macro_rules | `(tactic| walk_at "subscriptTail Name Constant str int") => `(tactic| ((with_reducible show wpAny _ _ (subscriptTail _ _ (Value.str (pairS _) _) (Value.int 1 _)) _ _ _); refine pair_item1 ?_; (try dsimp only)))
local macro_rules | `(tactic| walk_at "subscriptTail") => `(tactic| ((with_reducible show wpAny _ _ (subscriptTail _ _ (Value.ref _) (Value.str _ _)) _ _ _); refine halt ?_))
local macro_rules | `(tactic| walk_at "call builtin:max") => `(tactic| (refine halt ?_))
theorem srcUpto {prog : Program} {w : World} {A : Around} {s₁ : Shared} {r : Addr} {t u v : Tok} {n : Nat} (hh : A.handled = none) (hn : n < 1000) (hr : IsRange s₁.heap r 0 (n : Int) 1 t u v) : SrcAt prog w A (.ref r) s₁ [] n (fun i v => ∃ t, v = .int (0 + i) t) :=
  SrcAt.range hh hr (small_one (by decide) (by decide) (by omega) (by omega)) (by rw [rangeSize_nat, Int.sub_zero, Int.toNat_natCast])
noncomputable def notin (p : F6) (j : F4) : Bool := j != fstP p && j != sndP p
theorem notin_eq : ∀ p j, (!(!(PySem.Builtin.Str.occurrences (pairS p) (ltr false j) 0 (pairS p).length 1).isEmpty)) = notin p j := by decide +kernel
theorem four_notin : ∀ p, four.filter (notin p) = [oth0 p, oth1 p] := by decide
noncomputable def strOf (l : List F4) : Str := ⟨(l.map codeL).toArray⟩
theorem strOf_add (a b : List F4) : strOf a ++ strOf b = strOf (a ++ b) := by
  show Str.mk _ = _
  simp [strOf]
theorem ltr_strOf (j : F4) : ltr false j = strOf [j] := ltr_code j
theorem two_strOf (i j : F4) : two i j = strOf [i, j] := rfl
theorem strOf_len (l : List F4) : (strOf l).length = l.length := by
  show (List.toArray _).size = _
  simp
noncomputable def midsL (p : F6) : List (List F4) := [[], [oth0 p], [oth1 p], [oth0 p, oth1 p], [oth1 p, oth0 p]]
theorem empty_lit : Str.ofString "" = strOf [] := by decide +kernel
theorem mids_eq (p : F6) : [Str.ofString "", ltr false (oth0 p), ltr false (oth1 p), two (oth0 p) (oth1 p), two (oth1 p) (oth0 p)] = (midsL p).map strOf := by
  simp only [midsL, List.map_cons, List.map_nil, empty_lit, ltr_strOf, two_strOf]
theorem mids_len (p : F6) (k : Nat) (mid : List F4) (h : (midsL p)[k]? = some mid) : mid.length ≤ 2 := by
  match k, h with
  | 0, h => cases h; decide
  | 1, h => cases h; exact Nat.le_succ 1
  | 2, h => cases h; exact Nat.le_succ 1
  | 3, h => cases h; exact Nat.le_refl 2
  | 4, h => cases h; exact Nat.le_refl 2
  | k + 5, h => simp [midsL] at h
noncomputable def waysN (D : NatF) (p : F6) : List Nat := [way0 D p, way1 D p, way2 D p, way3 D p, way4 D p]
theorem slice_two : ∀ p, ∀ mid ∈ midsL p, ∀ i < 3, i < mid.length + 1 → Txt.slice (strOf ([fstP p] ++ mid ++ [sndP p])) (some (i : Int)) (some ((i : Int) + 2)) = two (([fstP p] ++ mid ++ [sndP p]).getD i 0) (([fstP p] ++ mid ++ [sndP p]).getD (i + 1) 0) ∧ ([fstP p] ++ mid ++ [sndP p]).getD i 0 ≠ ([fstP p] ++ mid ++ [sndP p]).getD (i + 1) 0 := by decide +kernel
theorem max2_is {M : Int} {a b : Nat} (h1 : M ∈ [(a : Int), (b : Int)]) (h2 : ∀ x, x ∈ [(a : Int), (b : Int)] → x ≤ M) : M = ((max a b : Nat) : Int) := by
  have k1 := h2 _ (.head _)
  have k2 := h2 _ (.tail _ (.head _))
  rcases List.mem_cons.mp h1 with rfl | h1
  · rw [Nat.max_eq_left (Int.ofNat_le.mp k2)]
  · rw [List.mem_singleton.mp h1] at k1 ⊢
    rw [Nat.max_eq_right (Int.ofNat_le.mp k1)]
theorem max3_is {M : Int} {a b c : Nat} (h1 : M ∈ [(a : Int), (b : Int), (c : Int)]) (h2 : ∀ x, x ∈ [(a : Int), (b : Int), (c : Int)] → x ≤ M) : M = ((max (max a b) c : Nat) : Int) := by
  have k1 := h2 _ (.head _)
  have k2 := h2 _ (.tail _ (.head _))
  have k3 := h2 _ (.tail _ (.tail _ (.head _)))
  rcases List.mem_cons.mp h1 with rfl | h1
  · rw [Nat.max_eq_left (Int.ofNat_le.mp k2), Nat.max_eq_left (Int.ofNat_le.mp k3)]
  rcases List.mem_cons.mp h1 with rfl | h1
  · rw [Nat.max_eq_right (Int.ofNat_le.mp k1), Nat.max_eq_left (Int.ofNat_le.mp k3)]
  · rw [List.mem_singleton.mp h1] at k1 k2 ⊢
    rw [Nat.max_eq_right (Nat.max_le.mpr ⟨Int.ofNat_le.mp k1, Int.ofNat_le.mp k2⟩)]
theorem way_is (D : NatF) (p : F6) (k : Nat) (mid : List F4) (hk : (midsL p)[k]? = some mid) (M : Int)
    (h1 : M ∈ (List.range (mid.length + 1)).map fun i => (D (pairOf (([fstP p] ++ mid ++ [sndP p]).getD i 0) (([fstP p] ++ mid ++ [sndP p]).getD (i + 1) 0)) : Int))
    (h2 : ∀ a, a ∈ ((List.range (mid.length + 1)).map fun i => (D (pairOf (([fstP p] ++ mid ++ [sndP p]).getD i 0) (([fstP p] ++ mid ++ [sndP p]).getD (i + 1) 0)) : Int)) → a ≤ M) : ∃ x, (waysN D p)[k]? = some x ∧ M = (x : Int) := by
  match k, hk with
  | 0, hk =>
    cases hk
    exact ⟨way0 D p, rfl, List.mem_singleton.mp h1⟩
  | 1, hk =>
    cases hk
    exact ⟨way1 D p, rfl, max2_is (a := D (pairOf (fstP p) (oth0 p))) (b := D (pairOf (oth0 p) (sndP p))) h1 h2⟩
  | 2, hk =>
    cases hk
    exact ⟨way2 D p, rfl, max2_is (a := D (pairOf (fstP p) (oth1 p))) (b := D (pairOf (oth1 p) (sndP p))) h1 h2⟩
  | 3, hk =>
    cases hk
    exact ⟨way3 D p, rfl, max3_is (a := D (pairOf (fstP p) (oth0 p))) (b := D (pairOf (oth0 p) (oth1 p))) (c := D (pairOf (oth1 p) (sndP p))) h1 h2⟩
  | 4, hk =>
    cases hk
    exact ⟨way4 D p, rfl, max3_is (a := D (pairOf (fstP p) (oth1 p))) (b := D (pairOf (oth1 p) (oth0 p))) (c := D (pairOf (oth0 p) (sndP p))) h1 h2⟩
  | k + 5, hk => exact absurd hk (by rw [show (midsL p)[k + 5]? = none from List.getElem?_eq_none (by show 5 ≤ k + 5; omega)]; exact fun h => nomatch h)
theorem lev_is (D : NatF) (p : F6) (M : Int) (h1 : M ∈ (waysN D p).map fun n : Nat => (n : Int)) (h2 : ∀ a, a ∈ ((waysN D p).map fun n : Nat => (n : Int)) → M ≤ a) : M = (levN D p : Nat) := by
  obtain ⟨x, hx, rfl⟩ := List.mem_map.mp h1
  have k : ∀ y ∈ waysN D p, x ≤ y := fun y hy => Int.ofNat_le.mp (h2 _ (List.mem_map.mpr ⟨y, hy, rfl⟩))
  refine congrArg Int.ofNat (Nat.le_antisymm ?_ ?_)
  · exact Nat.le_min.mpr ⟨k _ (.head _), Nat.le_min.mpr ⟨k _ (.tail _ (.head _)), Nat.le_min.mpr ⟨k _ (.tail _ (.tail _ (.head _))), Nat.le_min.mpr ⟨k _ (.tail _ (.tail _ (.tail _ (.head _)))), k _ (.tail _ (.tail _ (.tail _ (.tail _ (.head _)))))⟩⟩⟩⟩
  · have r2 : ∀ {a b c : Nat}, b ≤ c → min a b ≤ c := fun h => Nat.le_trans (Nat.min_le_right _ _) h
    rcases List.mem_cons.mp hx with rfl | hx
    · exact Nat.min_le_left _ _
    rcases List.mem_cons.mp hx with rfl | hx
    · exact r2 (Nat.min_le_left _ _)
    rcases List.mem_cons.mp hx with rfl | hx
    · exact r2 (r2 (Nat.min_le_left _ _))
    rcases List.mem_cons.mp hx with rfl | hx
    · exact r2 (r2 (r2 (Nat.min_le_left _ _)))
    rw [List.mem_singleton.mp hx]
    exact r2 (r2 (r2 (Nat.min_le_right _ _)))
theorem two_strs {ys : List Value} {x y : Str} (h : StrsAre ys [x, y]) : ∃ t u, ys = [.str x t, .str y u] := by
  obtain ⟨t0, w0, e0, k0⟩ := strs_cons h
  obtain ⟨t1, w1, e1, k1⟩ := strs_cons k0
  cases k1
  subst e1 e0
  exact ⟨t0, t1, rfl⟩
set_option maxRecDepth 100000 in
set_option maxHeartbeats 0 in
theorem level_spec (w : World) (kd : Addr) (od : Obj) (kvs : List (Str × Value)) (D : NatF) (p : F6) (pt : Tok) (rest : List (Addr × Obj)) (hdo : od.IsDictOf (PySem.strKind PG w) kvs) (hkn : KnowsD (fun q => (D q : Int)) kvs) :
    CallSpec 2 w 259 [.ref kd, .str (pairS p) pt] [] ((kd, od) :: rest) (fun v nw => (∃ t, v = .int (levN D p : Nat) t) ∧ nw = (kd, od) :: rest) := by
  intro mean loose mg mb dp un gd cn cs a ccd cl outer A₀ base h₀ L m s Q E B F KX N T hk hdp hun hret
  w_on
  dsimp only [PG, KG, VG, S] at *
  (k_here; (with_reducible show wpAny _ (ktrTop _ _ _ _ _ _ _ _ _ _) _ _ _ _); (refine wpAny_call ?_); (k_dflt (refine' code_defC ?k1 ?k2 ?k3 ?k4 ?k5 ?kA ?kF ?kK ?k6 ?k7 ?k8 ?k9 ?kB ?kD ?_ ?c2 ?c3 ?c4; (case kA => exact rfl); (case kF => exact rfl); (case kK => assumption); (case k1 => k_asm); (case k2 => k_asm); (case k3 => k_asm); (case k4 => k_asm); (case k5 => k_asm); (case k6 => k_is); (case k7 => k_is); (case k8 => ktr_room); (case k9 => first | exact BindsTo.of_eq rfl | exact binds_K (by k_in) rfl (by k_is) rfl rfl rfl | fail "no rule for these arguments"); (case kB => exact rfl); (case kD => decide +kernel); (case c2 => exact rfl); (case c3 => exact rfl); (case c4 => exact rfl); k_whole; intro g L1 h1 tk1 cells' FG F1 N' Y' B1 X1 T1 l1; (try k_lt l1); k_cells Y'; (try simp only [List.cons_append, List.nil_append] at N'); (try dsimp only); (try k_lift B1); (try k_fold))))
  k_steps
  refine go ?_
  rename_i ow op ok d1 d2 d3
  rename News _ _ _ _ => N1
  replace d1 : ow.data = .cell none := d1
  replace d2 : op.data = .cell (some (.str (pairS p) pt)) := d2
  replace d3 : ok.data = .cell (some (.ref kd)) := d3
  refine assign_comp F1 (by rfl) (by rfl) (by decide) (by rfl) (by decide) (by rfl) (by intro _; with_unfolding_all rfl) (by rfl) (by rfl) ?_
  k_steps
  refine SrcComp.mk [] ((Str.ofString "abcd").cps.size) _ _ (fun i ys nw => nw = (L1 + 1 + 1 + 1, ow) :: (L1 + 1 + 1, op) :: (L1 + 1, ok) :: (kd, od) :: rest ∧ StrsAre ys (((four.take i).filter (notin p)).map fun j => ltr false j)) (SrcAt.str (by rfl)) (by rw [abcd_cps]; decide) (fun _ _ _ _ _ h => (nomatch h)) F1 N1 (fun _ h => (nomatch h)) ⟨rfl, .nil⟩ ?_ ?_
  · clear F1 N1
    rintro g2 i v ys nw I oI C oC D2 m₂ h tk E' ⟨hi, hv⟩ ⟨rfl, hS⟩ hC hx Fc Nc off ⟨ne1, ne2, ne3⟩
    obtain ⟨j, u, hj, rfl⟩ := sign_abcd hv
    refine wpAny_tests_one ?_
    have Nc2 := News_sub Nc (news' := (C, oC) :: (I, oI) :: (D2, LCg.lst ys) :: (L1 + 1 + 1 + 1, ow) :: (L1 + 1 + 1, op) :: (L1 + 1, ok) :: (kd, od) :: rest) (sub_cons (.tail _ (.head _)) (sub_cons (.head _) (fun q hq => .tail _ (.tail _ hq))))
    clear Nc
    k_steps
    refine go ?_
    refine PyProof.Rows.notIn_str ?_
    rw [notin_eq]
    cases hb : notin p j
    · k_steps
      rename Fr _ _ _ _ => F7
      rename News _ _ _ _ => N7
      refine LCg.CompEnd.intro F7 N7 _ (sub_cons (.tail _ (.head _)) (sub_cons (.head _) (fun q hq => .tail _ (.tail _ hq)))) off trivial ⟨rfl, ?_⟩
      rw [take_snoc hj, List.filter_append]
      simpa [hb] using hS
    · k_steps
      rename Fr _ _ _ _ => F7
      rename News _ _ _ _ => N7
      refine LCg.CompEnd.intro F7 N7 _ (sub_cons (.tail _ (.head _)) (sub_cons (.head _) (fun q hq => .tail _ (.tail _ hq)))) off trivial ⟨rfl, ?_⟩
      rw [take_snoc hj, List.filter_append, List.map_append]
      simpa [hb] using Mine.StrsAre.snoc hS _ u
  · clear F1 N1
    rintro D2 h tk ys nw F1 N1 off ⟨rfl, hS⟩ h2 tk2 F2 N2
    have e4 : four.take (Str.ofString "abcd").cps.size = four := by rw [abcd_cps]; rfl
    rw [e4, four_notin] at hS
    simp only [List.map_cons, List.map_nil] at hS
    obtain ⟨t0, t1, rfl⟩ := two_strs hS
    clear F1 N1
    k_steps
    refine go ?_
    rename_i dpl hA FA NA lA hB F3 N3
    clear FA NA
    refine For_src F3 (by intro _; with_unfolding_all rfl) (by passes_own) ?_
    k_steps
    refine go ?_
    refine PyProof.Rows.add_str ?_ (hsz := by rw [ltr_len, ltr_len, sizeLine_eq]; decide)
    intro t5 k5
    rw [two_add]
    try dsimp only
    k_steps
    refine go ?_
    refine PyProof.Rows.add_str ?_ (hsz := by rw [ltr_len, ltr_len, sizeLine_eq]; decide)
    intro t6 k6
    rw [two_add]
    try dsimp only
    k_steps
    rename_i ml hM F4 N4 lM
    have hrest := l1.2
    have hM0 : StrsAre [Value.str (Str.ofString "") (tk2 + 1), Value.str (ltr false (oth0 p)) t0, Value.str (ltr false (oth1 p)) t1, Value.str (two (oth0 p) (oth1 p)) t5, Value.str (two (oth1 p) (oth0 p)) t6] ((midsL p).map strOf) := by
      rw [← mids_eq]
      exact .cons _ _ (.cons _ _ (.cons _ _ (.cons _ _ (.cons _ _ .nil))))
    generalize hmv : [Value.str (Str.ofString "") (tk2 + 1), Value.str (ltr false (oth0 p)) t0, Value.str (ltr false (oth1 p)) t1, Value.str (two (oth0 p) (oth1 p)) t5, Value.str (two (oth1 p) (oth0 p)) t6] = mv at hM0
    have N5 : News g L1 hM ((dpl, W.listOf ([] : List Value).toArray 0) :: (L1 + 1 + 1 + 1, ow) :: (ml, W.listOf mv.toArray 0) :: (L1 + 1 + 1, op) :: (L1 + 1, ok) :: (kd, od) :: rest) := by
      rw [← hmv]
      exact News_sub N4 (sub_cons (.tail _ (.head _)) (sub_cons (.tail _ (.tail _ (.tail _ (.head _)))) (sub_cons (.head _) (fun q hq => .tail _ (.tail _ (.tail _ (.tail _ hq)))))))
    have hm5 : mv.length = 5 := by rw [← hmv]; rfl
    clear N4 hmv
    refine SrcLoop.mk [(ml, W.listOf mv.toArray 0)] 5 _ _ _ (fun k m₁ nw => ∃ dv dk' ow' x, nw = (dpl, W.listOf dv.toArray dk') :: (L1 + 1 + 1 + 1, ow') :: (ml, W.listOf mv.toArray 0) :: (L1 + 1 + 1, op) :: (L1 + 1, ok) :: (kd, od) :: rest ∧ ow'.data = .cell x ∧ IntsAre dv (((waysN D p).take k).map fun n : Nat => (n : Int)) ∧ m₁ (Str.ofString "deepest") = some (.ref dpl)) (by rw [← hm5]; exact SrcAt.list (by rfl) N5 (.tail _ (.tail _ (.head _)))) ?_ F4 N5 ⟨[], 0, ow, _, rfl, d1, .nil, rfl⟩ ?_ ?_
    · rintro i m₁ nw ⟨dv, dk', ow', x, rfl, _⟩ q hq
      rw [List.mem_singleton.mp hq]
      exact .tail _ (.tail _ (.head _))
    · clear F4 N5
      rintro k v m₁ nw h tk I o hk5 hvk ⟨dv, dk', ow', x, rfl, dw, hdv, e1⟩ hI F N
      obtain ⟨y, ty, hy, rfl⟩ := Mine.StrsAre.getAt hM0 hvk
      rw [List.getElem?_map] at hy
      obtain ⟨mid, hmid, rfl⟩ := Option.map_eq_some_iff.mp hy
      replace F := Fr_knows F [(Str.ofString "deepest", .ref dpl)] (kn1 e1 kn0)
      dsimp only [know] at F
      have hdl : dv.length ≤ 5 := by rw [ints_len hdv, List.length_map, List.length_take]; exact Nat.min_le_right _ _
      have hsn : ∀ (x : Int) (t : Tok), IntsAre (dv ++ [.int x t]) (((waysN D p).take k).map (fun n : Nat => (n : Int)) ++ [x]) := fun x t => ints_snoc hdv x t
      have hI3 : @Ne Nat (L1 + 1 + 1 + 1) I := hI (L1 + 1 + 1 + 1, ow') (.tail _ (.head _))
      k_steps
      refine go ?_
      have hml := mids_len p k mid hmid
      refine PyProof.Rows.add_str ?_ (hsz := ?_)
      rotate_left
      · rw [ltr_len, strOf_len, sizeLine_eq]; omega
      intro t7 k7
      rw [ltr_strOf, strOf_add]
      try dsimp only
      k_steps
      refine go ?_
      refine PyProof.Rows.add_str ?_ (hsz := ?_)
      rotate_left
      · rw [ltr_len, strOf_len, sizeLine_eq, List.length_append, List.length_singleton]; omega
      intro t8 k8
      rw [ltr_strOf, strOf_add]
      try dsimp only
      k_steps
      refine go ?_
      rename_i hX hY ow2 F5 N5 d5
      generalize hpath : [fstP p] ++ mid ++ [sndP p] = path at d5
      refine comp_src F5 (by rfl) (by decide) (by rfl) (by decide) (by rfl) (by intro _; with_unfolding_all rfl) ?_
      k_steps
      refine PyProof.Rows.len_str (by rw [strOf_len, ← hpath]; simp; omega) ?_
      rw [strOf_len]
      have hpl : path.length = mid.length + 2 := by rw [← hpath]; simp
      try dsimp only
      k_steps
      rename IsRange _ _ _ _ _ _ _ _ => HR
      rename Fr _ _ _ _ => F6
      rename News _ _ _ _ => N6
      have hb : (path.length : Int) - 1 = ((mid.length + 1 : Nat) : Int) := by omega
      rw [hb] at HR
      have hmm : mid ∈ midsL p := List.mem_of_getElem? hmid
      refine SrcComp.mk [] (mid.length + 1) _ _ (fun i ys nw => nw = (I, o) :: (dpl, W.listOf dv.toArray dk') :: (L1 + 1 + 1 + 1, ow2) :: (ml, W.listOf mv.toArray 0) :: (L1 + 1 + 1, op) :: (L1 + 1, ok) :: (kd, od) :: rest ∧ IntsAre ys ((List.range i).map fun i => (D (pairOf (path.getD i 0) (path.getD (i + 1) 0)) : Int))) (srcUpto (by rfl) (by omega) HR) (by omega) (fun _ _ _ _ _ h => (nomatch h)) F6 N6 (fun _ h => (nomatch h)) ⟨rfl, .nil⟩ ?_ ?_
      · clear HR F6 N6
        rintro g2 i v ys nw I2 oI C oC D2' m₂ h tk E' ⟨hi, ti, rfl⟩ ⟨rfl, hS⟩ hC hx Fc Nc off ⟨ne1, ne2, ne3⟩
        rw [Int.zero_add] at hx
        obtain ⟨hsl, hne2⟩ := slice_two p mid hmm i (by omega) hi
        rw [hpath] at hsl hne2
        obtain ⟨tv, hval⟩ := hkn _ _ hne2
        refine tests_nil ?_
        dsimp only [if_true]
        have Nc2 := News_sub Nc (news' := (C, oC) :: (L1 + 1 + 1 + 1, ow2) :: (L1 + 1, ok) :: (kd, od) :: (I2, oI) :: (D2', LCg.lst ys) :: (I, o) :: (dpl, W.listOf dv.toArray dk') :: (L1 + 1 + 1 + 1, ow2) :: (ml, W.listOf mv.toArray 0) :: (L1 + 1 + 1, op) :: (L1 + 1, ok) :: (kd, od) :: rest) (sub_cons (.tail _ (.head _)) (sub_cons (.tail _ (.tail _ (.tail _ (.tail _ (.tail _ (.head _)))))) (sub_cons (.tail _ (.tail _ (.tail _ (.tail _ (.tail _ (.tail _ (.tail _ (.tail _ (.head _))))))))) (sub_cons (.tail _ (.tail _ (.tail _ (.tail _ (.tail _ (.tail _ (.tail _ (.tail _ (.tail _ (.head _)))))))))) (sub_cons (.head _) (fun q hq => .tail _ (.tail _ hq)))))))
        clear Nc
        k_steps
        refine go ?_
        rename Fr _ _ _ _ => F7
        rename News _ _ _ _ => N7
        refine slice_strN_ss (s := ⟨_, _, _, _, _⟩) F7 N7 ?_ (hsz := by rw [strOf_len, sizeLine_eq]; omega)
        intro h8 t8' k8' F8 N8
        rw [hsl]
        clear F7 N7
        try dsimp only
        k_steps
        refine go ?_
        refine dict_get N8 (.tail _ (.tail _ (.tail _ (.head _)))) hdo hval ?_
        try dsimp only
        k_steps
        rename Fr _ _ _ _ => F9
        rename News _ _ _ _ => N9
        refine LCg.CompEnd.intro F9 N9 _ (sub_cons (.tail _ (.tail _ (.tail _ (.tail _ (.head _))))) (sub_cons (.head _) (fun q hq => .tail _ (.tail _ (.tail _ (.tail _ (.tail _ hq))))))) off trivial ⟨rfl, ?_⟩
        rw [List.range_succ, List.map_append]
        exact ints_snoc hS _ _
      · clear HR F6 N6
        rintro D3 h tk ys nw F6 N6 off ⟨rfl, hS⟩
        k_steps
        refine go ?_
        rename Fr _ _ _ _ => F7
        rename News _ _ _ _ => N7
        refine max_list_N (by rfl) F7 N7 (News_isList N7 (.head _)) hS (by simp) ?_
        intro h8 M tM kM F8 N8 hM1 hM2
        rw [← hpath] at hM1 hM2
        obtain ⟨x, hx, rfl⟩ := way_is D p k mid hmid M hM1 hM2
        clear F7 N7
        try dsimp only
        k_steps
        refine go ?_
        refine append_led (vs := dv) (n := dk') (news := (D3, LCg.lst ys) :: (I, o) :: (L1 + 1 + 1 + 1, ow2) :: (ml, W.listOf mv.toArray 0) :: (L1 + 1 + 1, op) :: (L1 + 1, ok) :: (kd, od) :: rest) F8 (News_sub N8 ?_) ?_ (by omega) ?_
        · exact sub_cons (.tail _ (.tail _ (.head _))) (sub_cons (.head _) (sub_cons (.tail _ (.head _)) (fun q hq => .tail _ (.tail _ (.tail _ hq)))))
        · refine sub_c1 (P := fun a => a ≠ dpl) (fun e => off1_mem off (dpl, W.listOf dv.toArray dk') (.tail _ (.head _)) e.symm) (sub_c1 (P := fun a => a ≠ dpl) (fun e => hI (dpl, W.listOf dv.toArray dk') (.head _) e.symm) (sub_c1 (P := fun a => a ≠ dpl) (Nat.ne_of_lt lA.2.1) (sub_c1 (P := fun a => a ≠ dpl) (Nat.ne_of_gt lM.1) (sub_c1 (P := fun a => a ≠ dpl) (Nat.ne_of_lt lA.2.2.1) (sub_c1 (P := fun a => a ≠ dpl) (Nat.ne_of_lt lA.2.2.2.1) (sub_c1 (P := fun a => a ≠ dpl) (Nat.ne_of_lt lA.2.2.2.2.1) (fun q hq => Nat.ne_of_lt (allLt_mem lA.2.2.2.2.2 q hq))))))))
        intro h9 F9 N9
        clear F8 N8
        k_steps
        rename Fr _ _ _ _ => F9
        rename News _ _ _ _ => N9
        refine TurnU.intro F9 (nw := (dpl, W.listOf (dv ++ [Value.int (x : Int) tM]).toArray (dk' + 1)) :: (L1 + 1 + 1 + 1, ow2) :: (ml, W.listOf mv.toArray 0) :: (L1 + 1 + 1, op) :: (L1 + 1, ok) :: (kd, od) :: rest) (News_sub N9 ?_) ?_ ⟨_, dk' + 1, ow2, _, rfl, d5, ?_, rfl⟩
        · exact sub_cons (.tail _ (.tail _ (.head _))) (sub_cons (.head _) (fun q hq => .tail _ (.tail _ (.tail _ hq))))
        · exact sub_c1 (P := fun a => a ≠ I) (hI (dpl, W.listOf dv.toArray dk') (.head _)) (sub_c1 (P := fun a => a ≠ I) hI3 (fun q hq => hI q (.tail _ (.tail _ hq))))
        · rw [take_snoc hx, List.map_append]
          exact hsn _ _
    · clear F4 N5
      rintro h' tk m' nw F N ⟨dv, dk', ow', x, rfl, dw, hdv, e1⟩
      replace F := Fr_knows F [(Str.ofString "deepest", .ref dpl)] (kn1 e1 kn0)
      dsimp only [know] at F
      k_steps
      refine go ?_
      rename Fr _ _ _ _ => F7
      rename News _ _ _ _ => N7
      refine min_list_N (by rfl) F7 N7 (News_isList N7 (.head _)) hdv (by simp [waysN]) ?_
      intro h8 M tM kM F8 N8 hM1 hM2
      rw [show (waysN D p).take 5 = waysN D p from rfl] at hM1 hM2
      obtain rfl := lev_is D p M hM1 hM2
      clear F7 N7
      try dsimp only
      k_steps
      rename Fr _ _ _ _ => F9
      rename News _ _ _ _ => N9
      exact hret _ _ _ _ ⟨⟨_, rfl⟩, rfl⟩ F9 (News_sub N9 (fun q hq => .tail _ (.tail _ (.tail _ (.tail _ (.tail _ hq))))))
end Mine
end
section
open PySem PySem.W PySem.Calls PyProof.Rows
namespace Mine
theorem fillS14 : (PySem.Challenge.rw_ty0055_01, Mine.hd.heap_1) = (PySem.Challenge.rw_ty0055_01, Mine.hd.heap_1) := by
  k_fill
  rfl
local macro_rules | `(tactic| walk_at "call ref") => `(tactic| ((with_reducible show wpAny _ _ (call (Value.ref 254) _ _) _ _ _); refine halt ?_))
local macro_rules | `(tactic| walk_at "call ref") => `(tactic| ((with_reducible show wpAny _ _ (call (Value.ref 259) _ _) _ _ _); refine halt ?_))

local macro_rules | `(tactic| k_all) => `(tactic| first | with_reducible assumption | (refine restOff (by with_reducible assumption) ?_; (try dsimp only); omega))
local macro_rules | `(tactic| walk_at "eval ListComp") => `(tactic| (refine halt ?_))
set_option maxRecDepth 100000 in
set_option maxHeartbeats 0 in
set_option pp.maxSteps 100000 in
theorem known_step {mean : ExcName → Option Value} {loose : List Str} {mg mb : Str → Option Value} (w : World) (h₀ : Heap) (fa : Addr) (cdv : Value) (m : Str → Option Value) (s : Shared) (Q : Flow → Shared → Prop) (E : Value → Shared → Prop)
   (KX : (KG w.params).In h₀) (T : Top VG loose mean mg mb h₀) (K0 : Below callerA h₀ [] h₀) (hE : PassesOwn (model PG w) (callerA.deeper (lawEnv h₀.objs.size fa cdv)) (lawEnv h₀.objs.size fa cdv) E)
   (o1 o2 o3 o4 o5 : Obj) (dl pl : Addr) (dk pk : Nat) (d : F6 → Int) (td pu : F6 → Tok) (rest : List (Addr × Obj)) (ho1 : o1.data = .cell (some (.ref pl))) (ho4 : o4.data = .cell none) (hc4 : ∀ q ∈ (dl, W.listOf (drawnV d td).toArray dk) :: (pl, W.listOf (pairsV pu).toArray pk) :: rest, q.1 ≠ h₀.objs.size + 1 + 1 + 1 + 1)
    (e_depths : m (Str.ofString "depths") = some (.ref dl))
   (F : Fr h₀ h₀.objs.size s.heap m)
   (N : News h₀ h₀.objs.size s.heap ((dl, W.listOf (drawnV d td).toArray dk) :: (pl, W.listOf (pairsV pu).toArray pk) :: (h₀.objs.size + 1 + 1 + 1 + 1 + 1, o5) :: (h₀.objs.size + 1 + 1 + 1 + 1, o4) :: (h₀.objs.size + 1 + 1 + 1, o3) :: (h₀.objs.size + 1 + 1, o2) :: (h₀.objs.size + 1, o1) :: rest))
   (done : ∀ h' tk m' kd od kvs o4', (od.IsDictOf (PySem.strKind PG w) kvs) → (KnowsD d kvs) → (o4'.data = .cell (some (.ref kd))) → ((∀ q ∈ (dl, W.listOf (drawnV d td).toArray dk) :: (pl, W.listOf (pairsV pu).toArray pk) :: (h₀.objs.size + 1 + 1 + 1 + 1 + 1, o5) :: (h₀.objs.size + 1 + 1 + 1 + 1, o4') :: (h₀.objs.size + 1 + 1 + 1, o3) :: (h₀.objs.size + 1 + 1, o2) :: (h₀.objs.size + 1, o1) :: rest, q.1 ≠ kd)) → (∀ y, m' y = m y) → Fr h₀ h₀.objs.size h' m' → News h₀ h₀.objs.size h' ((kd, od) :: (dl, W.listOf (drawnV d td).toArray dk) :: (pl, W.listOf (pairsV pu).toArray pk) :: (h₀.objs.size + 1 + 1 + 1 + 1 + 1, o5) :: (h₀.objs.size + 1 + 1 + 1 + 1, o4') :: (h₀.objs.size + 1 + 1 + 1, o3) :: (h₀.objs.size + 1 + 1, o2) :: (h₀.objs.size + 1, o1) :: rest) → Q .next { s with heap := h', toks := tk }) :
   wpAny (model PG w) (callerA.deeper (lawEnv h₀.objs.size fa cdv)) (execs ([lawAt 14]) (lawEnv h₀.objs.size fa cdv)) Q E s := by
  w_on
  replace F := Fr_knows F [((Str.ofString "depths"), .ref dl)] (kn1 e_depths kn0)
  dsimp only [know] at F
  dsimp only [lawEnv, PG, KG, VG, S] at *
  conv in (occs := *) lawScope => all_goals whnf
  conv in (lawAt _) => whnf
  k_steps
  refine go ?_
  rename Fr _ _ _ _ => F2
  rename News _ _ _ _ => N2
  refine CallSpec.use (both_spec w dl pl dk pk d td pu ((h₀.objs.size + 1 + 1 + 1 + 1 + 1, o5) :: (h₀.objs.size + 1 + 1 + 1 + 1, o4) :: (h₀.objs.size + 1 + 1 + 1, o3) :: (h₀.objs.size + 1 + 1, o2) :: (h₀.objs.size + 1, o1) :: rest)) (by assumption) F2 (by assumption) N2 (by assumption) rfl rfl ?_ ?_ ?_
  · ktr_room
  · ktr_units
  rintro v nw h' tk' ⟨kd, od, kvs, rfl, rfl, hdo, hkn, hne⟩ F3 N3
  clear F2 N2
  have hk4 : @Ne Nat kd (h₀.objs.size + 1 + 1 + 1 + 1) := fun e => hne (h₀.objs.size + 1 + 1 + 1 + 1, o4) (.tail _ (.tail _ (.tail _ (.head _)))) e.symm
  have hd4 : @Ne Nat dl (h₀.objs.size + 1 + 1 + 1 + 1) := hc4 _ (.head _)
  have hp4 : @Ne Nat pl (h₀.objs.size + 1 + 1 + 1 + 1) := hc4 _ (.tail _ (.head _))
  have hr4 : ∀ q ∈ rest, q.1 ≠ h₀.objs.size + 1 + 1 + 1 + 1 := fun q hq => hc4 q (.tail _ (.tail _ hq))
  k_steps
  rename Fr _ _ _ _ => F7
  rename News _ _ _ _ => N7
  refine done _ _ _ kd od kvs _ hdo hkn (by assumption) ?_ (fun y => ?_) F7 N7
  · intro q hq
    simp only [List.mem_cons] at hq hne
    rcases hq with rfl | rfl | rfl | rfl | rfl | rfl | rfl | hq
    · exact hne _ (by simp)
    · exact hne _ (by simp)
    · exact hne (h₀.objs.size + 1 + 1 + 1 + 1 + 1, o5) (by simp)
    · exact hne (h₀.objs.size + 1 + 1 + 1 + 1, o4) (by simp)
    · exact hne (h₀.objs.size + 1 + 1 + 1, o3) (by simp)
    · exact hne (h₀.objs.size + 1 + 1, o2) (by simp)
    · exact hne (h₀.objs.size + 1, o1) (by simp)
    · exact hne q (by simp [hq])
  · exact know_if e_depths rfl
set_option maxRecDepth 100000 in
set_option maxHeartbeats 0 in
set_option pp.maxSteps 100000 in
theorem levels_step {mean : ExcName → Option Value} {loose : List Str} {mg mb : Str → Option Value} (w : World) (h₀ : Heap) (fa : Addr) (cdv : Value) (m : Str → Option Value) (s : Shared) (Q : Flow → Shared → Prop) (E : Value → Shared → Prop)
   (KX : (KG w.params).In h₀) (T : Top VG loose mean mg mb h₀) (K0 : Below callerA h₀ [] h₀) (hE : PassesOwn (model PG w) (callerA.deeper (lawEnv h₀.objs.size fa cdv)) (lawEnv h₀.objs.size fa cdv) E)
   (o1 o2 o3 o4 o5 : Obj) (pl kd : Addr) (pk : Nat) (od : Obj) (kvs : List (Str × Value)) (D : NatF) (pu : F6 → Tok) (rest : List (Addr × Obj)) (ho1 : o1.data = .cell (some (.ref pl))) (ho4 : o4.data = .cell (some (.ref kd))) (ho5 : o5.data = .cell none) (hdo : od.IsDictOf (PySem.strKind PG w) kvs) (hkn : KnowsD (fun q => (D q : Int)) kvs) (hc5 : ∀ q ∈ (pl, W.listOf (pairsV pu).toArray pk) :: (kd, od) :: rest, q.1 ≠ h₀.objs.size + 1 + 1 + 1 + 1 + 1)
   
   (F : Fr h₀ h₀.objs.size s.heap m)
   (N : News h₀ h₀.objs.size s.heap ((pl, W.listOf (pairsV pu).toArray pk) :: (kd, od) :: (h₀.objs.size + 1 + 1 + 1 + 1 + 1, o5) :: (h₀.objs.size + 1 + 1 + 1 + 1, o4) :: (h₀.objs.size + 1 + 1 + 1, o3) :: (h₀.objs.size + 1 + 1, o2) :: (h₀.objs.size + 1, o1) :: rest))
   (done : ∀ h' tk m' ll lk tl o5', (o5'.data = .cell (some (.ref ll))) → (∀ y, m' y = m y) → Fr h₀ h₀.objs.size h' m' → News h₀ h₀.objs.size h' ((ll, W.listOf (drawnV (fun p => ((levN D p : Nat) : Int)) tl).toArray lk) :: (pl, W.listOf (pairsV pu).toArray pk) :: (kd, od) :: (h₀.objs.size + 1 + 1 + 1 + 1 + 1, o5') :: (h₀.objs.size + 1 + 1 + 1 + 1, o4) :: (h₀.objs.size + 1 + 1 + 1, o3) :: (h₀.objs.size + 1 + 1, o2) :: (h₀.objs.size + 1, o1) :: rest) → Q .next { s with heap := h', toks := tk }) :
   wpAny (model PG w) (callerA.deeper (lawEnv h₀.objs.size fa cdv)) (execs ([lawAt 15]) (lawEnv h₀.objs.size fa cdv)) Q E s := by
  w_on
  dsimp only [lawEnv, PG, KG, VG, S] at *
  conv in (occs := *) lawScope => all_goals whnf
  conv in (lawAt _) => whnf
  k_steps
  refine go ?_
  refine comp_src F (by rfl) (by decide) (by rfl) (by decide) (by rfl) (by intro _; with_unfolding_all rfl) ?_
  k_steps
  refine SrcComp.mk [(pl, W.listOf (pairsV pu).toArray pk)] 6 _ _ (fun i ys nw => nw = (pl, W.listOf (pairsV pu).toArray pk) :: (kd, od) :: (h₀.objs.size + 1 + 1 + 1 + 1 + 1, o5) :: (h₀.objs.size + 1 + 1 + 1 + 1, o4) :: (h₀.objs.size + 1 + 1 + 1, o3) :: (h₀.objs.size + 1 + 1, o2) :: (h₀.objs.size + 1, o1) :: rest ∧ IntsAre ys ((allP.take i).map fun p => ((levN D p : Nat) : Int))) (SrcAt.list (by rfl) N (.head _)) (by decide) (fun _ _ _ h p hp => ?_) F N (fun p hp => ?_) ⟨rfl, .nil⟩ ?_ ?_
  · rw [h.1, List.mem_singleton.mp hp]; exact .head _
  · rw [List.mem_singleton.mp hp]; exact .head _
  · clear F N
    rintro g i v ys nw I oI C oC D2 m₂ h tk E' ⟨hi, hv⟩ ⟨rfl, hS⟩ hC hx Fc Nc off ⟨ne1, ne2, ne3⟩
    obtain ⟨p, hp, _, rfl⟩ := pairs_get hv
    refine tests_nil ?_
    dsimp only [if_true]
    have Nc2 := News_sub Nc (news' := (C, oC) :: (h₀.objs.size + 1 + 1 + 1 + 1, o4) :: (kd, od) :: (I, oI) :: (D2, LCg.lst ys) :: (pl, W.listOf (pairsV pu).toArray pk) :: (kd, od) :: (h₀.objs.size + 1 + 1 + 1 + 1 + 1, o5) :: (h₀.objs.size + 1 + 1 + 1 + 1, o4) :: (h₀.objs.size + 1 + 1 + 1, o3) :: (h₀.objs.size + 1 + 1, o2) :: (h₀.objs.size + 1, o1) :: rest) (by
      (repeat with_reducible refine List.forall_mem_cons.mpr ⟨(by (repeat first | with_reducible assumption | with_reducible exact List.mem_cons_self | with_reducible refine List.mem_cons_of_mem _ ?_ | with_reducible exact List.mem_append_left _ (by assumption) | with_reducible refine List.mem_append_right _ ?_)), ?_⟩); first | exact fun _ hq => absurd hq List.not_mem_nil | (intro q hq; (repeat first | with_reducible assumption | with_reducible exact List.mem_cons_self | with_reducible refine List.mem_cons_of_mem _ ?_ | with_reducible exact List.mem_append_left _ (by assumption) | with_reducible refine List.mem_append_right _ ?_); done) | (intro q hq; rcases List.mem_append.mp hq with hq | hq <;> (repeat first | with_reducible assumption | with_reducible exact List.mem_cons_self | with_reducible refine List.mem_cons_of_mem _ ?_ | with_reducible exact List.mem_append_left _ (by assumption) | with_reducible refine List.mem_append_right _ ?_)))
    clear Nc
    change Fr h₀ h₀.objs.size h m at Fc
    change News h₀ h₀.objs.size h _ at Nc2
    k_steps
    refine go ?_
    rename Fr _ _ _ _ => F4
    rename News _ _ _ _ => N4
    refine CallSpec.use (level_spec w kd od kvs D p (pu p) ((C, oC) :: (I, oI) :: (D2, LCg.lst ys) :: (pl, W.listOf (pairsV pu).toArray pk) :: (kd, od) :: (h₀.objs.size + 1 + 1 + 1 + 1 + 1, o5) :: (h₀.objs.size + 1 + 1 + 1 + 1, o4) :: (h₀.objs.size + 1 + 1 + 1, o3) :: (h₀.objs.size + 1 + 1, o2) :: (h₀.objs.size + 1, o1) :: rest) hdo hkn) (by assumption) F4 (by assumption) (News_sub N4 ?_) (by assumption) rfl rfl ?_ ?_ ?_
    · (repeat with_reducible refine List.forall_mem_cons.mpr ⟨(by (repeat first | with_reducible assumption | with_reducible exact List.mem_cons_self | with_reducible refine List.mem_cons_of_mem _ ?_ | with_reducible exact List.mem_append_left _ (by assumption) | with_reducible refine List.mem_append_right _ ?_)), ?_⟩); first | exact fun _ hq => absurd hq List.not_mem_nil | (intro q hq; (repeat first | with_reducible assumption | with_reducible exact List.mem_cons_self | with_reducible refine List.mem_cons_of_mem _ ?_ | with_reducible exact List.mem_append_left _ (by assumption) | with_reducible refine List.mem_append_right _ ?_); done) | (intro q hq; rcases List.mem_append.mp hq with hq | hq <;> (repeat first | with_reducible assumption | with_reducible exact List.mem_cons_self | with_reducible refine List.mem_cons_of_mem _ ?_ | with_reducible exact List.mem_append_left _ (by assumption) | with_reducible refine List.mem_append_right _ ?_))
    · ktr_room
    · ktr_units
    rintro v nw h' tk' ⟨⟨t5, rfl⟩, rfl⟩ F6 N6
    clear F4 N4
    k_steps
    rename Fr _ _ _ _ => F7
    rename News _ _ _ _ => N7
    refine LCg.CompEnd.intro F7 N7 _ ?_ off trivial ⟨rfl, ?_⟩
    · (repeat with_reducible refine List.forall_mem_cons.mpr ⟨(by (repeat first | with_reducible assumption | with_reducible exact List.mem_cons_self | with_reducible refine List.mem_cons_of_mem _ ?_ | with_reducible exact List.mem_append_left _ (by assumption) | with_reducible refine List.mem_append_right _ ?_)), ?_⟩); first | exact fun _ hq => absurd hq List.not_mem_nil | (intro q hq; (repeat first | with_reducible assumption | with_reducible exact List.mem_cons_self | with_reducible refine List.mem_cons_of_mem _ ?_ | with_reducible exact List.mem_append_left _ (by assumption) | with_reducible refine List.mem_append_right _ ?_); done) | (intro q hq; rcases List.mem_append.mp hq with hq | hq <;> (repeat first | with_reducible assumption | with_reducible exact List.mem_cons_self | with_reducible refine List.mem_cons_of_mem _ ?_ | with_reducible exact List.mem_append_left _ (by assumption) | with_reducible refine List.mem_append_right _ ?_))
    · rw [take_snoc hp, List.map_append]
      exact ints_snoc hS _ _
  · clear F N
    rintro D2 h tk ys nw F2 N2 off ⟨rfl, hS⟩
    obtain ⟨te, rfl⟩ := six_of hS
    have h1 : @Ne Nat D2 (h₀.objs.size + 1 + 1 + 1 + 1 + 1) := fun e => off1_mem off (h₀.objs.size + 1 + 1 + 1 + 1 + 1, o5) (.tail _ (.tail _ (.head _))) e.symm
    have h2 : @Ne Nat pl (h₀.objs.size + 1 + 1 + 1 + 1 + 1) := hc5 _ (.head _)
    have h3 : @Ne Nat kd (h₀.objs.size + 1 + 1 + 1 + 1 + 1) := hc5 _ (.tail _ (.head _))
    have h4 : ∀ q ∈ rest, q.1 ≠ h₀.objs.size + 1 + 1 + 1 + 1 + 1 := fun q hq => hc5 q (.tail _ (.tail _ hq))
    k_steps
    rename Fr _ _ _ _ => F7
    rename News _ _ _ _ => N7
    exact done _ _ _ D2 _ te _ (by assumption) (fun y => rfl) F7 N7
end Mine
end
section
open PySem PySem.W PySem.Calls PyProof.Rows
namespace Mine
theorem fillS16 : (PySem.Challenge.rw_ty0055_01, Mine.hd.heap_1) = (PySem.Challenge.rw_ty0055_01, Mine.hd.heap_1) := by
  k_fill
  rfl

local macro_rules | `(tactic| walk_at "eval ListComp") => `(tactic| (refine halt ?_))
local macro_rules | `(tactic| walk_at "call builtin:sorted") => `(tactic| (refine halt ?_))
local macro_rules | `(tactic| walk_at "compareOp NotEq ref ref") => `(tactic| (refine halt ?_))
local macro_rules | `(tactic| walk_at "binaryOp Add str str") => `(tactic| (refine halt ?_))
local macro_rules | `(tactic| walk_at "binaryOp Mult str int") => `(tactic| (refine halt ?_))
local macro_rules | `(tactic| walk_at "subscriptTail Name Name ref int") => `(tactic| ((with_reducible show wpAny _ _ (subscriptTail _ _ (Value.ref _) (Value.int (Nat.cast (Fin.val _)) _)) _ _ _); (rename News _ _ _ _ => Nz); (first | refine drawn_item Nz (by repeat first | exact List.Mem.head _ | refine List.Mem.tail _ ?_) ?_ | refine pairs_item Nz (by repeat first | exact List.Mem.head _ | refine List.Mem.tail _ ?_) ?_); (try dsimp only)))
theorem mul_len : ∀ k < 8, (Txt.mul (Str.ofString ".") ((k : Nat) : Int)).length ≤ 8 := by decide +kernel
theorem perm_sorted {l1 l2 : List Str} (h : l1.Perm l2) (h1 : l1.Pairwise fun a b => ¬ b.cps.toList < a.cps.toList) (h2 : l2.Pairwise fun a b => ¬ b.cps.toList < a.cps.toList) : l1 = l2 := by
  have anti : ∀ a b : Str, ¬ b.cps.toList < a.cps.toList → ¬ a.cps.toList < b.cps.toList → a = b := fun a b x y => by
    have : a.cps.toList = b.cps.toList := List.le_antisymm x y
    cases a; cases b
    simpa using this
  induction l1 generalizing l2 with
  | nil => exact h.nil_eq
  | cons a t ih =>
    cases l2 with
    | nil => exact absurd h.symm.nil_eq (by simp)
    | cons b s =>
      have e : a = b := by
        rcases List.mem_cons.mp (h.subset (.head _)) with e | ha
        · exact e
        rcases List.mem_cons.mp (h.symm.subset (.head _)) with e | hb
        · exact e.symm
        exact anti a b ((List.pairwise_cons.mp h1).1 b hb) ((List.pairwise_cons.mp h2).1 a ha)
      subst e
      rw [ih (List.Perm.cons_inv h) (List.pairwise_cons.mp h1).2 (List.pairwise_cons.mp h2).2]
theorem rising_pair : ∀ (l : List Str) (p : Str), risingS p l = true → (p :: l).Pairwise fun a b => ¬ b.cps.toList < a.cps.toList
  | [], p, _ => List.pairwise_singleton _ _
  | x :: r, p, h => by
    have h' : (!Spec.ltCps x.cps.toList p.cps.toList && risingS x r) = true := h
    rw [Bool.and_eq_true, ltCps_eq] at h'
    have hx : ¬ x.cps.toList < p.cps.toList := by simpa using h'.1
    have hr := rising_pair r x h'.2
    refine List.pairwise_cons.mpr ⟨fun y hy => ?_, hr⟩
    rcases List.mem_cons.mp hy with rfl | hy
    · exact hx
    · exact fun c => hx (List.lt_of_le_of_lt ((List.pairwise_cons.mp hr).1 y hy) c)
theorem sorted_pair {l : List Str} (h : sortedS l = true) : l.Pairwise fun a b => ¬ b.cps.toList < a.cps.toList := by
  cases l with
  | nil => exact .nil
  | cons x r => exact rising_pair r x h
theorem sorted_eq {l1 l2 : List Str} (h : l1.Perm l2) (h1 : sortedS l1 = true) (h2 : sortedS l2 = true) : l1 = l2 := perm_sorted h (sorted_pair h1) (sorted_pair h2)
theorem all_perm {l1 l2 : List Str} (h : l1.Perm l2) (h2 : l2.all PyData.strOk = true) : l1.all PyData.strOk = true := by
  rw [List.all_eq_true] at h2 ⊢
  exact fun x hx => h2 x (h.subset hx)
theorem rowF_ok {D : NatF} (hD : ∀ p, D p < 5) : (allP.map (rowF D)).all PyData.strOk = true := by
  rw [List.all_map, List.all_eq_true]
  exact fun p _ => rowS_ok _ (by have := lev_lt hD p; omega) p
set_option maxRecDepth 100000 in
set_option maxHeartbeats 0 in
set_option pp.maxSteps 100000 in
theorem sorted_step {mean : ExcName → Option Value} {loose : List Str} {mg mb : Str → Option Value} (w : World) (h₀ : Heap) (fa : Addr) (cdv : Value) (m : Str → Option Value) (s : Shared) (Q : Flow → Shared → Prop) (E : Value → Shared → Prop)
   (KX : (KG w.params).In h₀) (T : Top VG loose mean mg mb h₀) (K0 : Below callerA h₀ [] h₀) (hE : PassesOwn (model PG w) (callerA.deeper (lawEnv h₀.objs.size fa cdv)) (lawEnv h₀.objs.size fa cdv) E)
   (o1 o2 o3 o4 o5 : Obj) (pl ll hol : Addr) (pk lk oe : Nat) (D : NatF) (pu tl : F6 → Tok) (hv : List Value) (rest : List (Addr × Obj)) (ho1 : o1.data = .cell (some (.ref pl))) (ho3 : o3.data = .cell (some (.ref hol))) (ho5 : o5.data = .cell (some (.ref ll))) (hs : List Str) (hH : StrsAre hv hs) (hP : hs.Perm (allP.map (rowF D))) (hD : ∀ p, D p < 5)
   
   (F : Fr h₀ h₀.objs.size s.heap m)
   (N : News h₀ h₀.objs.size s.heap ((pl, W.listOf (pairsV pu).toArray pk) :: (ll, W.listOf (drawnV (fun p => ((levN D p : Nat) : Int)) tl).toArray lk) :: (hol, W.listOf hv.toArray oe) :: (h₀.objs.size + 1 + 1 + 1 + 1 + 1, o5) :: (h₀.objs.size + 1 + 1 + 1 + 1, o4) :: (h₀.objs.size + 1 + 1 + 1, o3) :: (h₀.objs.size + 1 + 1, o2) :: (h₀.objs.size + 1, o1) :: rest))
   (done : ∀ h' tk m', (∀ y, m' y = m y) → Fr h₀ h₀.objs.size h' m' → News h₀ h₀.objs.size h' ((pl, W.listOf (pairsV pu).toArray pk) :: (ll, W.listOf (drawnV (fun p => ((levN D p : Nat) : Int)) tl).toArray lk) :: (hol, W.listOf hv.toArray oe) :: (h₀.objs.size + 1 + 1 + 1 + 1 + 1, o5) :: (h₀.objs.size + 1 + 1 + 1 + 1, o4) :: (h₀.objs.size + 1 + 1 + 1, o3) :: (h₀.objs.size + 1 + 1, o2) :: (h₀.objs.size + 1, o1) :: rest) → Q .next { s with heap := h', toks := tk }) :
   wpAny (model PG w) (callerA.deeper (lawEnv h₀.objs.size fa cdv)) (execs ([lawAt 16]) (lawEnv h₀.objs.size fa cdv)) Q E s := by
  w_on
  dsimp only [lawEnv, PG, KG, VG, S] at *
  conv in (occs := *) lawScope => all_goals whnf
  conv in (lawAt _) => whnf
  have hlen : hv.length = 6 := by rw [Mine.StrsAre.len hH, hP.length_eq]; rfl
  have hH0 := hH
  k_steps
  refine go ?_
  rename Fr _ _ _ _ => F2
  rename News _ _ _ _ => N2
  refine sorted_N_str (s := ⟨_, _, _, _, _⟩) F2 N2 (News_isList N2 (.tail _ (.tail _ (.head _)))) hH0 (by omega) ?_
  intro h5 v1 s1 e1 F5 N5 a1 p1 q1
  clear F2 N2
  k_steps
  refine go ?_
  rename Fr _ _ _ _ => F2
  rename News _ _ _ _ => N2
  generalize hs1 : (_, seqObj "list" v1.toArray e1) = so at N2
  refine comp_src F2 (by rfl) (by decide) (by rfl) (by decide) (by rfl) (by intro _; with_unfolding_all rfl) ?_
  k_steps
  rename IsRange _ _ _ _ _ _ _ _ => HR
  rename Fr _ _ _ _ => F3
  rename News _ _ _ _ => N3
  refine SrcComp.mk [] 6 _ _ (fun i ys nw => nw = so :: (pl, W.listOf (pairsV pu).toArray pk) :: (ll, W.listOf (drawnV (fun p => ((levN D p : Nat) : Int)) tl).toArray lk) :: (hol, W.listOf hv.toArray oe) :: (h₀.objs.size + 1 + 1 + 1 + 1 + 1, o5) :: (h₀.objs.size + 1 + 1 + 1 + 1, o4) :: (h₀.objs.size + 1 + 1 + 1, o3) :: (h₀.objs.size + 1 + 1, o2) :: (h₀.objs.size + 1, o1) :: rest ∧ StrsAre ys ((allP.take i).map (rowF D))) (SrcAt.range (by rfl) HR rfl rfl) (by decide) (fun _ _ _ _ _ h => (nomatch h)) F3 N3 (fun _ h => (nomatch h)) ⟨rfl, .nil⟩ ?_ ?_
  · clear HR F3 N3
    rintro g i v ys nw I oI C oC D2 m₂ h tk E' ⟨hi, ti, rfl⟩ ⟨rfl, hS⟩ hC hx Fc Nc off ⟨ne1, ne2, ne3⟩
    obtain ⟨p, rfl, hpi⟩ := fin6 hi
    rw [Int.zero_add] at hx
    have hl5 := lev_lt hD p
    refine tests_nil ?_
    dsimp only [if_true]
    have Nc2 := News_sub Nc (news' := (C, oC) :: (pl, W.listOf (pairsV pu).toArray pk) :: (ll, W.listOf (drawnV (fun p => ((levN D p : Nat) : Int)) tl).toArray lk) :: (h₀.objs.size + 1, o1) :: (h₀.objs.size + 1 + 1 + 1 + 1 + 1, o5) :: (I, oI) :: (D2, LCg.lst ys) :: so :: (pl, W.listOf (pairsV pu).toArray pk) :: (ll, W.listOf (drawnV (fun p => ((levN D p : Nat) : Int)) tl).toArray lk) :: (hol, W.listOf hv.toArray oe) :: (h₀.objs.size + 1 + 1 + 1 + 1 + 1, o5) :: (h₀.objs.size + 1 + 1 + 1 + 1, o4) :: (h₀.objs.size + 1 + 1 + 1, o3) :: (h₀.objs.size + 1 + 1, o2) :: (h₀.objs.size + 1, o1) :: rest) (by
      (repeat with_reducible refine List.forall_mem_cons.mpr ⟨(by (repeat first | with_reducible assumption | with_reducible exact List.mem_cons_self | with_reducible refine List.mem_cons_of_mem _ ?_ | with_reducible exact List.mem_append_left _ (by assumption) | with_reducible refine List.mem_append_right _ ?_)), ?_⟩); first | exact fun _ hq => absurd hq List.not_mem_nil | (intro q hq; (repeat first | with_reducible assumption | with_reducible exact List.mem_cons_self | with_reducible refine List.mem_cons_of_mem _ ?_ | with_reducible exact List.mem_append_left _ (by assumption) | with_reducible refine List.mem_append_right _ ?_); done) | (intro q hq; rcases List.mem_append.mp hq with hq | hq <;> (repeat first | with_reducible assumption | with_reducible exact List.mem_cons_self | with_reducible refine List.mem_cons_of_mem _ ?_ | with_reducible exact List.mem_append_left _ (by assumption) | with_reducible refine List.mem_append_right _ ?_)))
    clear Nc
    change Fr h₀ h₀.objs.size h m at Fc
    change News h₀ h₀.objs.size h _ at Nc2
    k_steps
    refine go ?_
    refine SB.mul (mulOk_of 1 10 (by decide) (by omega) (by omega) (by decide) (by decide)) ?_
    intro t5 k5
    try dsimp only
    k_steps
    refine go ?_
    have ecast : ((levN D p : Nat) : Int) + 1 = ((levN D p + 1 : Nat) : Int) := by omega
    have er := row_mul (levN D p + 1) (by omega) p (by omega)
    rw [ecast]
    refine PyProof.Rows.add_str ?_ (hsz := ?_)
    rotate_left
    · have : ∀ k < 8, (Txt.mul (Str.ofString ".") ((k : Nat) : Int)).length + (pairS p).length ≤ 16777216 := by
        intro k hk
        have := mul_len k hk
        rw [pairS_len]
        omega
      rw [sizeLine_eq]
      exact this _ (by omega)
    intro t6 k6
    rw [show Txt.mul (Str.ofString ".") ((levN D p + 1 : Nat) : Int) ++ pairS p = rowF D p from er]
    try dsimp only
    k_steps
    rename Fr _ _ _ _ => F7
    rename News _ _ _ _ => N7
    refine LCg.CompEnd.intro F7 N7 _ ?_ off trivial ⟨rfl, ?_⟩
    · (repeat with_reducible refine List.forall_mem_cons.mpr ⟨(by (repeat first | with_reducible assumption | with_reducible exact List.mem_cons_self | with_reducible refine List.mem_cons_of_mem _ ?_ | with_reducible exact List.mem_append_left _ (by assumption) | with_reducible refine List.mem_append_right _ ?_)), ?_⟩); first | exact fun _ hq => absurd hq List.not_mem_nil | (intro q hq; (repeat first | with_reducible assumption | with_reducible exact List.mem_cons_self | with_reducible refine List.mem_cons_of_mem _ ?_ | with_reducible exact List.mem_append_left _ (by assumption) | with_reducible refine List.mem_append_right _ ?_); done) | (intro q hq; rcases List.mem_append.mp hq with hq | hq <;> (repeat first | with_reducible assumption | with_reducible exact List.mem_cons_self | with_reducible refine List.mem_cons_of_mem _ ?_ | with_reducible exact List.mem_append_left _ (by assumption) | with_reducible refine List.mem_append_right _ ?_))
    · rw [take_snoc hpi, List.map_append]
      exact Mine.StrsAre.snoc hS _ t6
  · clear HR F3 N3
    rintro D2 h tk ys nw F3 N3 off ⟨rfl, hS⟩
    have hS0 : StrsAre ys (allP.map (rowF D)) := hS
    k_steps
    refine go ?_
    rename Fr _ _ _ _ => F4
    rename News _ _ _ _ => N4
    refine sorted_N_str (s := ⟨_, _, _, _, _⟩) F4 N4 (News_isList N4 (.head _)) hS0 (by rw [Mine.StrsAre.len hS0, List.length_map]; decide) ?_
    intro h6 v2 s2 e2 F6 N6 a2 p2 q2
    subst hs1
    clear F4 N4
    try dsimp only
    k_steps
    refine go ?_
    rename Fr _ _ _ _ => F7
    rename News _ _ _ _ => N7
    have hq : s1 = s2 := sorted_eq (p1.trans (hP.trans p2.symm)) q1 q2
    refine ne_strs (News_isList N7 (.tail _ (.tail _ (.head _)))) (News_isList N7 (.head _)) a1 a2 (all_perm (p1.trans hP) (rowF_ok hD)) (all_perm p2 (rowF_ok hD)) (by ke_room) ?_
    rw [decide_eq_true hq]
    k_steps
    rename Fr _ _ _ _ => F8
    rename News _ _ _ _ => N8
    exact done _ _ _ (fun y => rfl) F8 (News_sub N8 (fun q hq => .tail _ (.tail _ (.tail _ hq))))
end Mine
end
section
open PySem PySem.W PySem.Calls PyProof.Rows PySem.Spec
namespace Mine
section
variable {prog : Program} {w : World} {A : Around} {E : Value → Shared → Prop} {s : Shared} {h₀ : Heap} {L : Addr} {m : Str → Option Value} {env : Env}
/-- what the first generator does with a thing: the second one's loop -/
noncomputable def second (elt iter2 : PySem.Expr) (gens : List Comprehension) (scope : Scope) (pos : Pos) (acc : Value) (cenv : Env) : Sem Unit := do
  let x ← eval iter2 cenv
  standAt iter2.pos
  let x ← foldedSetIterable iter2 cenv x
  let _ ← runOwn (.compStart (.ListComp elt gens scope pos) 1 (← holding [x] (pyIter x)) acc cenv) cenv
theorem turn_first (elt iter1 iter2 t1 t2 : PySem.Expr) (ifs2 : List PySem.Expr) (scope : Scope) (pos : Pos) (it acc : Value) (cenv : Env) :
    compTurn (.ListComp elt [⟨t1, iter1, [], 0⟩, ⟨t2, iter2, ifs2, 0⟩] scope pos) 0 it acc cenv = turnOf t1 iter1.pos [] it cenv (second elt iter2 [⟨t1, iter1, [], 0⟩, ⟨t2, iter2, ifs2, 0⟩] scope pos acc cenv) (.compLoop (.ListComp elt [⟨t1, iter1, [], 0⟩, ⟨t2, iter2, ifs2, 0⟩] scope pos) 0 it acc cenv) := by
  unfold turnOf second
  simp only [bind_assoc]
  rfl
theorem turn_second (elt iter1 iter2 t1 t2 : PySem.Expr) (ifs2 : List PySem.Expr) (scope : Scope) (pos : Pos) (it acc : Value) (cenv : Env) :
    compTurn (.ListComp elt [⟨t1, iter1, [], 0⟩, ⟨t2, iter2, ifs2, 0⟩] scope pos) 1 it acc cenv = turnOf t2 iter2.pos ifs2 it cenv (emitOf elt acc cenv) (.compLoop (.ListComp elt [⟨t1, iter1, [], 0⟩, ⟨t2, iter2, ifs2, 0⟩] scope pos) 1 it acc cenv) := by rfl
end
end Mine
end
section
open PySem PySem.W PySem.Calls PyProof.Rows PySem.Spec
namespace Mine
section
variable {prog : Program} {w : World} {A : Around} {E : Value → Shared → Prop} {s : Shared} {h₀ : Heap} {L : Addr} {m : Str → Option Value} {env : Env}
/-- one turn of the second generator -/
noncomputable def Inner (prog : Program) (w : World) (A : Around) (h₀ : Heap) (L : Addr) (m : Str → Option Value) (cenv : Env) (elt : PySem.Expr) (ifs : List PySem.Expr) (x1 x2 : Str) (s₂ : Shared) (I C D : Addr) (oI : Obj) (v : Value) (n : Nat) (P : Nat → Value → Prop) (K : Nat → List Value → List (Addr × Obj) → Prop) : Prop :=
  ∀ k v2 ys nw I2 oI2 oC m₂ h tk (E' : Value → Shared → Prop), k < n → P k v2 → K k ys nw → LCg.NsObj oC m₂ → m₂ x1 = some v → m₂ x2 = some v2 → Fr h₀ L h m → News h₀ L h ((I2, oI2) :: (C, oC) :: (D, LCg.lst ys) :: (I, oI) :: nw) → LCg.Off3 I2 C D ((I, oI) :: nw) → LCg.Off3 I C D nw → ((@Ne Nat I2 C) ∧ (@Ne Nat I2 D) ∧ (@Ne Nat C D)) →
    wpAny (model prog w) A (testsOf ifs cenv) (fun ok s₃ => if ok = true then
        wpAny (model prog w) A (eval elt cenv) (LCg.CompEnd h₀ L m { s₂ with heap := h, toks := tk } I2 oI2 C oC D (LCg.lst ys) (fun _ => True) (fun y nw' => nw' = (I, oI) :: nw ∧ K (k + 1) (ys ++ [y]) nw)) E' s₃
      else LCg.CompEnd h₀ L m { s₂ with heap := h, toks := tk } I2 oI2 C oC D (LCg.lst ys) (fun _ => True) (fun _ nw' => nw' = (I, oI) :: nw ∧ K (k + 1) ys nw) .none s₃) E' { s₂ with heap := h, toks := tk }
/-- what is to be shown of the second generator's thing -/
noncomputable def Src2 (prog : Program) (w : World) (A : Around) (h₀ : Heap) (L : Addr) (m : Str → Option Value) (cenv : Env) (elt : PySem.Expr) (ifs : List PySem.Expr) (x1 x2 : Str) (s₂ : Shared) (I C D : Addr) (oI oC : Obj) (v : Value) (ys : List Value) (nw : List (Addr × Obj)) (J : List Value → List (Addr × Obj) → Prop) (xv : Value) (s₃ : Shared) : Prop :=
  ∃ (kp : List (Addr × Obj)) (n : Nat) (P : Nat → Value → Prop) (K : Nat → List Value → List (Addr × Obj) → Prop) (h₃ : Heap) (tk₃ : Tok), s₃ = { s₂ with heap := h₃, toks := tk₃ } ∧ SrcAt prog w A xv s₃ kp n P ∧ Fr h₀ L h₃ m ∧ News h₀ L h₃ ((I, oI) :: (C, oC) :: (D, LCg.lst ys) :: nw) ∧ (∀ k ys nw, K k ys nw → (∀ p ∈ kp, p ∈ nw) ∧ ys.length < 1000) ∧ K 0 ys nw ∧ (∀ ys nw, K n ys nw → J ys nw) ∧ Inner prog w A h₀ L m cenv elt ifs x1 x2 s₂ I C D oI v n P K
theorem Src2.mk {prog : Program} {w : World} {A : Around} {h₀ : Heap} {L : Addr} {m : Str → Option Value} {cenv : Env} {elt : PySem.Expr} {ifs : List PySem.Expr} {x1 x2 : Str} {s₂ : Shared} {I C D : Addr} {oI oC : Obj} {v : Value} {ys : List Value} {nw : List (Addr × Obj)} {J : List Value → List (Addr × Obj) → Prop} {xv : Value} {s₃ : Shared} (kp : List (Addr × Obj)) (n : Nat) (P : Nat → Value → Prop) (K : Nat → List Value → List (Addr × Obj) → Prop) (h₃ : Heap) (tk₃ : Tok) (a0 : s₃ = { s₂ with heap := h₃, toks := tk₃ }) (a1 : SrcAt prog w A xv s₃ kp n P) (a2 : Fr h₀ L h₃ m) (a3 : News h₀ L h₃ ((I, oI) :: (C, oC) :: (D, LCg.lst ys) :: nw)) (a4 : (∀ k ys nw, K k ys nw → (∀ p ∈ kp, p ∈ nw) ∧ ys.length < 1000)) (a5 : K 0 ys nw) (a6 : (∀ ys nw, K n ys nw → J ys nw)) (a7 : Inner prog w A h₀ L m cenv elt ifs x1 x2 s₂ I C D oI v n P K) : Src2 prog w A h₀ L m cenv elt ifs x1 x2 s₂ I C D oI oC v ys nw J xv s₃ := ⟨kp, n, P, K, h₃, tk₃, a0, a1, a2, a3, a4, a5, a6, a7⟩
theorem second_wp {elt iter1 iter2 : PySem.Expr} {ifs2 : List PySem.Expr} {x1 x2 : Str} {p1 p2 : Pos} {scope : Scope} {cl : List (Str × Addr)} {pos : Pos} {s₂ : Shared} {I C D : Addr} {oI oC : Obj} {v : Value} {ys : List Value} {nw : List (Addr × Obj)} {J : List Value → List (Addr × Obj) → Prop} {m₂ : Str → Option Value} {h : Heap} {tk : Nat} {E' : Value → Shared → Prop}
    (hkind : scope.kind = .function) (hx : scope.names.lookup x2 = some .local) (hxx : x1 ≠ x2) (hs2 : ∀ x, foldedSetIterable iter2 (compEnvC scope cl C env) x = pure x)
    (hC₀ : h₀.get? C = none) (hCL : C ≠ L) (hIC : I ≠ C) (hID : I ≠ D) (hDC : D ≠ C) (hoC : LCg.NsObj oC m₂) (h1 : m₂ x1 = some v) (off : LCg.Off3 I C D nw)
    (hEv : wpAny (model prog w) A (eval iter2 (compEnvC scope cl C env)) (Src2 prog w A h₀ L m (compEnvC scope cl C env) elt ifs2 x1 x2 s₂ I C D oI oC v ys nw J) E' { s₂ with heap := h, toks := tk }) :
    wpAny (model prog w) A (second elt iter2 [⟨.Name x1 p1, iter1, [], 0⟩, ⟨.Name x2 p2, iter2, ifs2, 0⟩] scope pos (.ref D) (compEnvC scope cl C env)) (fun _ => Turned h₀ L m s₂ I C D oI (fun _ => True) J) E' { s₂ with heap := h, toks := tk } := by
  unfold second
  refine wpAny_bind (wpAny_mono hEv (fun xv s₃ h₃ => ?_) fun _ _ e => e)
  obtain ⟨kp, n, P, K, h₃, tk₃, rfl, S, F, N, hKk, hK0, hKn, inner⟩ := h₃
  refine wpAny_bind (wpAny_standAt ?_)
  refine wpAny_bind (wpAny_of_eq (hs2 xv) ?_)
  refine wpAny_bind (wpAny_holding (S _ _ fun o fp St hfp W hSt hst => ?_))
  refine wpAny_bind (wpAny_runOwn ?_)
  dsimp only at hfp W hSt hst ⊢
  have hlt : ∀ p ∈ (I, oI) :: (C, oC) :: (D, LCg.lst ys) :: nw, @Ne Nat h₃.objs.size p.1 := fun p hp => Nat.ne_of_gt (Heap.lt_size (N p hp).1)
  have hI2C := hlt _ (.tail _ (.head _))
  have hI2D := hlt _ (.tail _ (.tail _ (.head _)))
  have up : ∀ b o', h₃.get? b = some o' → (h₃.push o).get? b = some o' := fun b o e => Heap.get?_push_of_some _ e
  have hoff : ∀ {nw}, LCg.Off3 I C D nw → (∀ p ∈ nw, @Ne Nat p.1 h₃.objs.size) → LCg.Off3 h₃.objs.size C D ((I, oI) :: nw) := fun ho hn => ⟨⟨Ne.symm (hlt _ (.head _)), hIC, hID⟩, LCg.Off3.of fun p hp => ⟨hn p hp, (ho.mem p hp).2⟩⟩
  have loop : ∀ s' : Shared, s' = { s₂ with heap := h₃.push o, toks := tk₃ } → codeAny (model prog w) A (.compLoop (.ListComp elt [⟨.Name x1 p1, iter1, [], 0⟩, ⟨.Name x2 p2, iter2, ifs2, 0⟩] scope pos) 1 (.ref h₃.objs.size) (.ref D) (compEnvC scope cl C env))
      (fun r s' => match r with | .ok f => wpAny (model prog w) A (pure ()) (fun _ => Turned h₀ L m s₂ I C D oI (fun _ => True) J) E' s' | .error e => cameBackBy (model prog w) A (compEnvC scope cl C env) E' e s') s' := by
    rintro s' rfl
    refine comp_walk (px := p2) (I := h₃.objs.size) (C := C) (D := D) (m := m) (obOf kp) (fun m₂ => m₂ x1 = some v) (fun k ys nw' => ∃ nw'', nw' = (I, oI) :: nw'' ∧ LCg.Off3 I C D nw'' ∧ K k ys nw'') W hSt hkind hx (Nat.ne_of_lt F.ns.lt) (next_is_new F) hC₀ hCL hI2C hI2D hDC ?_ (turn_second ..) ?_ ?_ ?_ ?_ hst (F.keeps up) hoC h1 (nw := (I, oI) :: nw) ?_ (hoff off fun p hp => Ne.symm (hlt p (.tail _ (.tail _ (.tail _ hp))))) ⟨nw, rfl, off, hK0⟩
    · intro hm
      obtain ⟨p, hp, e⟩ := hfp C hm (Ne.symm hI2C)
      exact (off.mem p ((hKk _ _ _ hK0).1 p hp)).2.1 e
    · intro m₃ v' h3
      show (if x1 = x2 then some v' else m₃ x1) = some v
      rw [if_neg hxx]
      exact h3
    · rintro k ys' nw' ⟨nw'', rfl, ho, hK⟩ b hb hbI
      exact .tail _ ((hKk _ _ _ hK).1 _ (obOf_mem (hfp b hb hbI)))
    · rintro k v2 ys' nw' oI2 oC' m₃ h' tk' E'' hk hP ⟨nw'', rfl, ho, hK⟩ hoC' hk1 hk2 F' N' off'
      have hl := (hKk _ _ _ hK).2
      refine wpAny_mono (inner k v2 ys' nw'' h₃.objs.size oI2 oC' m₃ h' tk' E'' hk hP hK hoC' hk1 hk2 F' N' off' ho ⟨hI2C, hI2D, Ne.symm hDC⟩) (fun ok s₄ h₄ => ?_) fun _ _ e => e
      cases ok with
      | false =>
        simp only [Bool.false_eq_true, if_false] at h₄ ⊢
        obtain ⟨h₄, tk₄, news₄, rfl, F₄, N₄, off₄, _, rfl, K₄⟩ := h₄
        exact ⟨h₄, tk₄, ys', _, oC', m₃, rfl, F₄, hoC', hk1, N₄, off₄, nw'', rfl, ho, K₄⟩
      | true =>
        simp only [if_true] at h₄ ⊢
        unfold emitOf
        refine wpAny_bind (wpAny_mono h₄ (fun y s₅ h₅ => ?_) fun _ _ e => e)
        obtain ⟨h₅, tk₅, news₅, rfl, F₅, N₅, off₅, _, rfl, K₅⟩ := h₅
        have zD := (N₅ (D, LCg.lst ys') (.tail _ (.tail _ (.head _)))).1
        have hDD := (N₅ (D, LCg.lst ys') (.tail _ (.tail _ (.head _)))).2
        refine wpAny_bind (append_at (hsz := by show ys'.toArray.size ≤ sizeLine; rw [List.size_toArray, sizeLine_eq]; omega) zD fun h₆ hs₆ hD₆ => wpAny_pure ?_)
        have off5 := off₅.mem
        refine ⟨h₆, tk₅, ys' ++ [y], _, oC', m₃, rfl, F₅.change hs₆ hDD.1 hDD.2, hoC', hk1, fun p hp => ?_, off₅, nw'', rfl, ho, K₅⟩
        rcases List.mem_cons.mp hp with rfl | hp
        · exact ⟨hs₆.extBut _ _ hI2D (N₅ _ (.head _)).1, (N₅ _ (.head _)).2⟩
        · rcases List.mem_cons.mp hp with rfl | hp
          · exact ⟨hs₆.extBut _ _ (Ne.symm hDC) (N₅ _ (.tail _ (.head _))).1, (N₅ _ (.tail _ (.head _))).2⟩
          · rcases List.mem_cons.mp hp with rfl | hp
            · exact ⟨hD₆.trans (congrArg some (LCg.lst_snoc ys' y)), hDD⟩
            · exact ⟨hs₆.extBut _ _ (off5 p hp).2.2 (N₅ p (.tail _ (.tail _ (.tail _ hp)))).1, (N₅ p (.tail _ (.tail _ (.tail _ hp)))).2⟩
    · rintro h' tk' ys' nw' oC' m₃ F' hoC' hk1 N' off' ⟨nw'', rfl, ho, hK⟩
      refine wpAny_pure ⟨h', tk', ys', nw'', oC', m₃, rfl, F', hoC', trivial, fun p hp => ?_, ho, hKn _ _ hK⟩
      rcases List.mem_cons.mp hp with rfl | hp
      · exact N' _ (.tail _ (.tail _ (.head _)))
      · rcases List.mem_cons.mp hp with rfl | hp
        · exact N' _ (.head _)
        · rcases List.mem_cons.mp hp with rfl | hp
          · exact N' _ (.tail _ (.head _))
          · exact N' _ (.tail _ (.tail _ (.tail _ hp)))
    · intro p hp
      simp only [List.mem_cons] at hp
      refine (N.grown up) p ?_
      simp only [List.mem_cons]
      rcases hp with h | h | h | h
      · exact .inr (.inl h)
      · exact .inr (.inr (.inl h))
      · exact .inl h
      · exact .inr (.inr (.inr h))
  exact start_second rfl rfl (loop _ rfl) (W.self 0 _ _ _ hst (loop _ rfl))
/-- what is to be shown of the first generator's thing -/
noncomputable def SrcComp2 (prog : Program) (w : World) (A : Around) (h₀ : Heap) (L : Addr) (m : Str → Option Value) (env : Env) (elt iter2 : PySem.Expr) (ifs : List PySem.Expr) (x1 x2 : Str) (scope : Scope) (cl : List (Str × Addr)) (Q : Addr → List Value → List (Addr × Obj) → Shared → Prop) (xv : Value) (s₁ : Shared) : Prop :=
  ∃ (kp : List (Addr × Obj)) (n : Nat) (P : Nat → Value → Prop) (news : List (Addr × Obj)) (J : Nat → List Value → List (Addr × Obj) → Prop),
    SrcAt prog w A xv s₁ kp n P ∧ (∀ i ys nw, J i ys nw → ∀ p ∈ kp, p ∈ nw) ∧ Fr h₀ L s₁.heap m ∧ News h₀ L s₁.heap news ∧ J 0 [] news ∧
    (∀ g i v ys nw I oI C oC D m₂ h tk (E' : Value → Shared → Prop), i < n → P i v → J i ys nw → LCg.NsObj oC m₂ → m₂ x1 = some v → Fr h₀ L h m → News h₀ L h ((I, oI) :: (C, oC) :: (D, LCg.lst ys) :: nw) → LCg.Off3 I C D nw →
      wpAny (model prog w) A (eval iter2 (compEnvC scope cl C env)) (Src2 prog w A h₀ L m (compEnvC scope cl C env) elt ifs x1 x2 { s₁ with heap := g } I C D oI oC v ys nw (J (i + 1))) E' { s₁ with heap := h, toks := tk }) ∧
    ∀ D ys nw, J n ys nw → LCg.Off1 D nw → Q D ys nw s₁
theorem SrcComp2.mk {prog : Program} {w : World} {A : Around} {h₀ : Heap} {L : Addr} {m : Str → Option Value} {env : Env} {elt iter2 : PySem.Expr} {ifs : List PySem.Expr} {x1 x2 : Str} {scope : Scope} {cl : List (Str × Addr)} {Q : Addr → List Value → List (Addr × Obj) → Shared → Prop} {xv : Value} {s₁ : Shared} (kp : List (Addr × Obj)) (n : Nat) (P : Nat → Value → Prop) (news : List (Addr × Obj)) (J : Nat → List Value → List (Addr × Obj) → Prop) (a0 : SrcAt prog w A xv s₁ kp n P) (a1 : (∀ i ys nw, J i ys nw → ∀ p ∈ kp, p ∈ nw)) (a2 : Fr h₀ L s₁.heap m) (a3 : News h₀ L s₁.heap news) (a4 : J 0 [] news) (a5 : (∀ g i v ys nw I oI C oC D m₂ h tk (E' : Value → Shared → Prop), i < n → P i v → J i ys nw → LCg.NsObj oC m₂ → m₂ x1 = some v → Fr h₀ L h m → News h₀ L h ((I, oI) :: (C, oC) :: (D, LCg.lst ys) :: nw) → LCg.Off3 I C D nw →
      wpAny (model prog w) A (eval iter2 (compEnvC scope cl C env)) (Src2 prog w A h₀ L m (compEnvC scope cl C env) elt ifs x1 x2 { s₁ with heap := g } I C D oI oC v ys nw (J (i + 1))) E' { s₁ with heap := h, toks := tk })) (a6 : ∀ D ys nw, J n ys nw → LCg.Off1 D nw → Q D ys nw s₁) : SrcComp2 prog w A h₀ L m env elt iter2 ifs x1 x2 scope cl Q xv s₁ := ⟨kp, n, P, news, J, a0, a1, a2, a3, a4, a5, a6⟩
theorem assign_comp2 {elt iter1 iter2 : PySem.Expr} {ifs2 : List PySem.Expr} {x1 x2 y : Str} {p1 p2 py : Pos} {scope : Scope} {cl : List (Str × Addr)} {pos spos : Pos} {Q : Flow → Shared → Prop} (_F : Fr h₀ env.locals s.heap m)
    (hsw : swapsWith (.ListComp elt [⟨.Name x1 p1, iter1, [], 0⟩, ⟨.Name x2 p2, iter2, ifs2, 0⟩] scope pos) (some (.Name y py)) spos.line env = pure true)
    (hclos : closureFor scope env = pure cl) (hcell : ∀ y ∈ scope.names, y.2 ≠ .cell) (hkind : scope.kind = .function)
    (hnames : ∀ y ∈ scope.names, y.2 = .local → scope.names.lookup y.1 = some .local) (hx1 : scope.names.lookup x1 = some .local) (hx2 : scope.names.lookup x2 = some .local) (hxx : x1 ≠ x2)
    (hs : ∀ x, foldedSetIterable iter1 env x = pure x) (hs2 : ∀ C x, foldedSetIterable iter2 (compEnvC scope cl C env) x = pure x)
    (hy : env.kindOf y = some .local) (hp : (env.scope.kind == .class || (env.scope.kind == .module && env.locals != env.globals)) = false)
    (h : wpAny (model prog w) A (eval iter1 env) (SrcComp2 prog w A h₀ env.locals m env elt iter2 ifs2 x1 x2 scope cl fun D ys nw s₁ => ∀ h tk, Fr h₀ env.locals h (fun z => if z = y then some (.ref D) else m z) → News h₀ env.locals h ((D, LCg.lst ys) :: nw) → Q .next { s₁ with heap := h, toks := tk }) E s) :
    wpAny (model prog w) A (exec (.Assign [.Name y py] (.ListComp elt [⟨.Name x1 p1, iter1, [], 0⟩, ⟨.Name x2 p2, iter2, ifs2, 0⟩] scope pos) spos) env) Q E s := by
  rw [exec_Assign_Name_used _ _ _ _ hsw]
  refine wpAny_bind (wpAny_standAt (wpAny_bind ?_))
  show wpAny _ A (do let _ ← comprehension (.ListComp elt [⟨.Name x1 p1, iter1, [], 0⟩, ⟨.Name x2 p2, iter2, ifs2, 0⟩] scope pos) scope env _ (newList []) false (eval iter1 env) (some (assign (.Name y py) env))) _ _ s
  refine wpAny_bind (wpAny_mono (wpAny_comprehension_free (use := some (assign (.Name y py) env)) (Q := fun _ s' => Q .next s') rfl hs hclos hkind hnames
    (wpAny_mono h (fun xv s₁ h₁ => ?_) fun _ _ e => e)) (fun _ s' hq => wpAny_pure (wpAny_pure hq)) fun _ _ e => e)
  obtain ⟨kp, n, P, news, J, S, hJk, F, N, h0, turn, done⟩ := h₁
  refine S _ _ fun o fp St hfp W hSt hst => ?_
  have up : ∀ b o', s₁.heap.get? b = some o' → (s₁.heap.push o).get? b = some o' := fun b o e => Heap.get?_push_of_some _ e
  generalize hH1 : s₁.heap.push o = H1 at hst up ⊢
  have hI1 : H1.objs.size = s₁.heap.objs.size + 1 := by rw [← hH1, Heap.size_push]
  refine wpAny_newObj_type (wpAny_newFunctionEnv hcell (by intro y hy; simp at hy) (fun h₁ hns₁ hsb₁ => ?_) hkind)
  dsimp only at hns₁ hsb₁ ⊢
  generalize hH2 : H1.push { cls := .type "list", dict := none, data := .seq ([] : List Value).toArray } = H2 at hns₁ hsb₁ ⊢
  have hC : H2.objs.size = H1.objs.size + 1 := by rw [← hH2, Heap.size_push]
  generalize hIe : s₁.heap.objs.size = I at *
  generalize hDe : H1.objs.size = D at *
  generalize hCe : H2.objs.size = C at *
  have hDC : D ≠ C := by rw [hC]; exact Nat.ne_of_lt (Nat.lt_succ_self _)
  have hIC : I ≠ C := by rw [hC, hI1]; exact Nat.ne_of_lt (Nat.lt_succ_of_lt (Nat.lt_succ_self _))
  have hID : I ≠ D := by rw [hI1]; exact Nat.ne_of_lt (Nat.lt_succ_self _)
  have below : ∀ b, b < I → b ≠ I ∧ b ≠ C ∧ b ≠ D := fun b hb => ⟨Nat.ne_of_lt hb, by rw [hC, hI1]; exact Nat.ne_of_lt (Nat.lt_succ_of_lt (Nat.lt_succ_of_lt hb)), by rw [hI1]; exact Nat.ne_of_lt (Nat.lt_succ_of_lt hb)⟩
  have old : ∀ b o, s₁.heap.get? b = some o → h₁.get? b = some o := fun b o e => by
    have hb : b < I := hIe ▸ Heap.lt_size e
    exact hsb₁.extBut b o (below b hb).2.1 (Heap.get?_push_of_some _ (by rw [← hH2]; exact Heap.get?_push_of_some _ (up b o e)))
  have old1 : ∀ b o, H1.get? b = some o → h₁.get? b = some o := fun b o e => by
    have hb : b < D := hDe ▸ Heap.lt_size e
    exact hsb₁.extBut b o (by rw [hC]; exact Nat.ne_of_lt (Nat.lt_succ_of_lt hb)) (Heap.get?_push_of_some _ (by rw [← hH2]; exact Heap.get?_push_of_some _ e))
  have hacc : h₁.get? D = some (LCg.lst []) := hsb₁.extBut _ _ hDC (Heap.get?_push_of_some _ (by rw [← hH2, ← hDe]; exact Heap.get?_push_size _ rfl))
  have hst₁ : St 0 h₁ := W.frame _ _ _ hst fun b _ o e => old1 b o e
  have new₀ : ∀ a, I ≤ a → h₀.get? a = none := fun a ha => by
    cases e : h₀.get? a with
    | none => rfl
    | some o' => exact absurd (Heap.lt_size (F.keep a o' e)) (by rw [hIe]; exact Nat.not_lt.mpr ha)
  have hI₀ : h₀.get? I = none := new₀ _ (Nat.le_refl _)
  have hD₀ : h₀.get? D = none := new₀ _ (by rw [hI1]; exact Nat.le_succ _)
  have hC₀ : h₀.get? C = none := new₀ _ (by rw [hC, hI1]; exact Nat.le_succ_of_le (Nat.le_succ _))
  have hLlt : env.locals < I := hIe ▸ F.ns.lt
  have hb := below _ hLlt
  obtain ⟨oC, hoC1, hoC2⟩ := LCg.ns_obj hns₁
  have hnlt : ∀ p ∈ news, p.1 < I := fun p hp => hIe ▸ Heap.lt_size (N p hp).1
  have off₀ : LCg.Off3 I C D news := LCg.Off3.of fun p hp => ⟨(below _ (hnlt p hp)).1, (below _ (hnlt p hp)).2.1, (below _ (hnlt p hp)).2.2⟩
  have F1 : Fr h₀ env.locals h₁ m := F.keeps old
  have N1 : News h₀ env.locals h₁ ((C, oC) :: (D, LCg.lst []) :: news) := fun p hp => by
    rcases List.mem_cons.mp hp with rfl | hp
    · exact ⟨hoC1, Ne.symm hb.2.1, hC₀⟩
    · rcases List.mem_cons.mp hp with rfl | hp
      · exact ⟨hacc, Ne.symm hb.2.2, hD₀⟩
      · exact (N.grown old) p hp
  have loop : ∀ R : Result → Shared → Prop, (∀ h tk ys nw oC m₂, Fr h₀ env.locals h m → LCg.NsObj oC m₂ → News h₀ env.locals h ((C, oC) :: (D, LCg.lst ys) :: nw) → LCg.Off3 I C D nw → J n ys nw → R (.ok .next) { s₁ with heap := h, toks := tk }) → ∀ s' : Shared, s' = { s₁ with heap := h₁, toks := s₁.toks + ([] : List (Str × Value)).length } →
      codeAny (model prog w) A (.compLoop (.ListComp elt [⟨.Name x1 p1, iter1, [], 0⟩, ⟨.Name x2 p2, iter2, ifs2, 0⟩] scope pos) 0 (.ref I) (.ref D) (compEnvC scope cl C env)) R s' := by
    rintro R hR s' rfl
    refine comp_walk (px := p1) (m := m) (obOf kp) (fun _ => True) J W hSt hkind hx1 hb.1 hI₀ hC₀ (Ne.symm hb.2.1) hIC hID hDC ?_ (turn_first ..) (fun _ _ _ => trivial) (fun i ys nw hJ b hb hbI => hJk _ _ _ hJ _ (obOf_mem (hfp b hb hbI))) ?_ (fun h tk ys nw oC m₂ F ho _ N off hJ => hR h tk ys nw oC m₂ F ho N off hJ) hst₁ F1 hoC2 trivial N1 off₀ h0
    · intro hm
      obtain ⟨p, hp, e⟩ := hfp C hm (Ne.symm hIC)
      exact (off₀.mem p (hJk _ _ _ h0 p hp)).2.1 e
    · rintro i v ys nw oI oC' m₂ h tk E' hi hP hJ ho _ hv F N off
      refine wpAny_tests_nil ?_
      simp only [if_true]
      exact second_wp hkind hx2 hxx (hs2 C) hC₀ (Ne.symm hb.2.1) hIC hID hDC ho hv off (turn s₁.heap i v ys nw I oI C oC' D m₂ h tk E' hi hP hJ ho hv F N off)
  have fin : ∀ h tk ys nw oC m₂, Fr h₀ env.locals h m → LCg.NsObj oC m₂ → News h₀ env.locals h ((C, oC) :: (D, LCg.lst ys) :: nw) → LCg.Off3 I C D nw → J n ys nw → compPost (model prog w) A E (some (assign (.Name y py) env)) (fun _ s' => Q .next s') (.ref D) C (.ok .next) { s₁ with heap := h, toks := tk } := by
    intro h tk ys nw oC m₂ F' ho N' off' hJ
    show wpAny _ A (assign (.Name y py) env (.ref D)) _ _ _
    refine wpAny_assign_Name (wpAny_storeName_local hy F'.ns (fun h₂ hn₂ hs₂ => ?_) hp)
    have hL₀ : h₀.get? env.locals = none := Heap.get?_none_of_le F'.above
    have F₂ : Fr h₀ env.locals h₂ (fun z => if z = y then some (.ref D) else m z) := ⟨hn₂, fun b o e => hs₂.extBut b o (fun q => by rw [q, hL₀] at e; cases e) (F'.keep b o e), F'.above⟩
    have z : ∀ p ∈ (C, oC) :: (D, LCg.lst ys) :: nw, h₂.get? p.1 = some p.2 := fun p hp => hs₂.extBut _ _ (N' p hp).2.1 (N' p hp).1
    refine ⟨m₂, ho.ns (z _ (.head _)), fun h'' hs'' => done D ys nw hJ off'.one h'' _ (F₂.change hs'' (Ne.symm hb.2.1) hC₀) (fun p hp => ?_)⟩
    refine ⟨hs''.extBut _ _ ?_ (z p (.tail _ hp)), (N' p (.tail _ hp)).2⟩
    rcases List.mem_cons.mp hp with rfl | hp
    · exact hDC
    · exact (off'.mem p hp).2.1
  exact start_second rfl rfl (loop _ fin _ rfl) (W.self 0 _ _ _ hst₁ (loop _ fin _ rfl))
end
end Mine
end
section
open PySem PySem.W PySem.Calls PyProof.Rows
namespace Mine
theorem fillS18 : (PySem.Challenge.rw_ty0055_01, Mine.hd.heap_1) = (PySem.Challenge.rw_ty0055_01, Mine.hd.heap_1) := by
  k_fill
  rfl

local macro_rules | `(tactic| walk_at "exec For Name Call cons nil") => `(tactic| ((with_reducible show wpAny _ _ (exec (Stmt.For _ _ _ _ _) _) _ _ _); refine halt ?_))
local macro_rules | `(tactic| walk_at "call builtin:len") => `(tactic| (refine halt ?_))
local macro_rules | `(tactic| walk_at "binaryOp Add str str") => `(tactic| (refine halt ?_))
local macro_rules | `(tactic| walk_at "subscriptTail Name Name ref int") => `(tactic| ((with_reducible show wpAny _ _ (subscriptTail _ _ (Value.ref _) (Value.int (Nat.cast (Fin.val _)) _)) _ _ _); (rename News _ _ _ _ => Nz); (first | refine drawn_item Nz (by repeat first | exact List.Mem.head _ | refine List.Mem.tail _ ?_) ?_ | refine pairs_item Nz (by repeat first | exact List.Mem.head _ | refine List.Mem.tail _ ?_) ?_); (try dsimp only)))

noncomputable def netJ : Stmt := (forBody (lawAt 18)).getD 0 (.Pass ⟨0, 0, 0, 0⟩)
noncomputable def netK : Stmt := (forBody netJ).getD 0 (.Pass ⟨0, 0, 0, 0⟩)
noncomputable def trk (i j : F6) (n : Nat) : List (F6 × F6 × F6) := (allP.take n).map fun k => (i, j, k)
noncomputable def trj (i : F6) (n : Nat) : List (F6 × F6 × F6) := (allP.take n).flatMap fun j => trk i j j.val
noncomputable def tri (n : Nat) : List (F6 × F6 × F6) := (allP.take n).flatMap fun i => trj i i.val
theorem tri_all : tri 6 = tripL := by decide
noncomputable def wts (D : NatF) (l : List (F6 × F6 × F6)) : List Int := (l.filter span).map fun t => ((w3 D t : Nat) : Int)
theorem wts_app (D : NatF) (a b : List (F6 × F6 × F6)) : wts D (a ++ b) = wts D a ++ wts D b := by simp [wts]
theorem trk_snoc {i j k : F6} {n : Nat} (h : allP[n]? = some k) : trk i j (n + 1) = trk i j n ++ [(i, j, k)] := by
  unfold trk; rw [take_snoc h, List.map_append]; rfl
theorem trj_snoc {i j : F6} {n : Nat} (h : allP[n]? = some j) : trj i (n + 1) = trj i n ++ trk i j j.val := by
  unfold trj; rw [take_snoc h, List.flatMap_append]; simp
theorem tri_snoc {i : F6} {n : Nat} (h : allP[n]? = some i) : tri (n + 1) = tri n ++ trj i i.val := by
  unfold tri; rw [take_snoc h, List.flatMap_append]; simp
noncomputable def six (i j k : F6) : List F4 := [fstP i, sndP i, fstP j, sndP j, fstP k, sndP k]
theorem six_str : ∀ i j k : F6, pairS i ++ pairS j ++ pairS k = strOf (six i j k) := by decide +kernel
noncomputable def sixV (i j k : F6) (n : Nat) : Str := ltr false ((six i j k).getD n 0)
theorem six_sign {i j k : F6} {n : Nat} {v : Value} (h : SignAt (strOf (six i j k)) n v) : ∃ t, v = .str (sixV i j k n) t := by
  have hx : ∀ i j k : F6, ∀ n c, (strOf (six i j k)).cps[n]? = some c → (⟨#[c]⟩ : Str) = sixV i j k n := by
    intro i j k n c h
    have hl : n < 6 := by
      obtain ⟨h', _⟩ := Array.getElem?_eq_some_iff.mp h
      simpa [strOf, six] using h'
    have hz : (strOf (six i j k)).cps[n]? = ((six i j k)[n]?).map codeL := by
      show ((six i j k).map codeL).toArray[n]? = _
      rw [List.getElem?_toArray, List.getElem?_map]
    rw [hz] at h
    obtain ⟨x, hx, rfl⟩ := Option.map_eq_some_iff.mp h
    unfold sixV
    rw [List.getD_eq_getElem?_getD, hx]
    exact (ltr_code x).symm
  obtain ⟨c, t, hc, rfl⟩ := h
  exact ⟨t, by rw [hx i j k n c hc]⟩
theorem six_span0 : (allP.all fun i => allP.all fun j => allP.all fun k => ((met (sixV i j k) 6).length == 4) == span (i, j, k)) = true := by decide +kernel
theorem six_span (i j k : F6) : ((met (sixV i j k) 6).length == 4) = span (i, j, k) :=
  eq_of_beq (List.all_eq_true.mp (List.all_eq_true.mp (List.all_eq_true.mp six_span0 i (mem_allP i)) j (mem_allP j)) k (mem_allP k))
theorem wts_len (D : NatF) (l : List (F6 × F6 × F6)) : (wts D l).length ≤ l.length := by
  unfold wts; rw [List.length_map]; exact List.length_filter_le _ _
theorem six_len : ∀ i j k : F6, (pairS i ++ pairS j).length + (pairS k).length = 6 := by decide +kernel
set_option maxRecDepth 100000 in
set_option maxHeartbeats 0 in
set_option pp.maxSteps 100000 in
theorem nets_k {mean : ExcName → Option Value} {loose : List Str} {mg mb : Str → Option Value} (w : World) (h₀ : Heap) (fa : Addr) (cdv : Value) (m : Str → Option Value) (s : Shared) (Q : Flow → Shared → Prop) (E : Value → Shared → Prop)
   (KX : (KG w.params).In h₀) (T : Top VG loose mean mg mb h₀) (K0 : Below callerA h₀ [] h₀) (hE : PassesOwn (model PG w) (callerA.deeper (lawEnv h₀.objs.size fa cdv)) (lawEnv h₀.objs.size fa cdv) E)
   (o1 o2 o3 o4 o5 : Obj) (nl dl pl : Addr) (nk dk pk : Nat) (D : NatF) (td pu : F6 → Tok) (nv : List Value) (l0 : List (F6 × F6 × F6)) (rest : List (Addr × Obj)) (ho1 : o1.data = .cell (some (.ref pl))) (hD : ∀ p, D p < 5) (hnv : IntsAre nv (wts D l0)) (hl0 : l0.length + 6 ≤ 900) (hne : ∀ q ∈ (dl, W.listOf (drawnV (fun p => (D p : Int)) td).toArray dk) :: (pl, W.listOf (pairsV pu).toArray pk) :: (h₀.objs.size + 1 + 1 + 1 + 1 + 1, o5) :: (h₀.objs.size + 1 + 1 + 1 + 1, o4) :: (h₀.objs.size + 1 + 1 + 1, o3) :: (h₀.objs.size + 1 + 1, o2) :: (h₀.objs.size + 1, o1) :: rest, q.1 ≠ nl) (i j : F6) (ui uj : Tok)
    (e_nets : m (Str.ofString "nets") = some (.ref nl)) (e_depths : m (Str.ofString "depths") = some (.ref dl)) (e_i : m (Str.ofString "i") = some (.int (i.val : Nat) ui)) (e_j : m (Str.ofString "j") = some (.int (j.val : Nat) uj))
   (F : Fr h₀ h₀.objs.size s.heap m)
   (N : News h₀ h₀.objs.size s.heap ((nl, W.listOf nv.toArray nk) :: (dl, W.listOf (drawnV (fun p => (D p : Int)) td).toArray dk) :: (pl, W.listOf (pairsV pu).toArray pk) :: (h₀.objs.size + 1 + 1 + 1 + 1 + 1, o5) :: (h₀.objs.size + 1 + 1 + 1 + 1, o4) :: (h₀.objs.size + 1 + 1 + 1, o3) :: (h₀.objs.size + 1 + 1, o2) :: (h₀.objs.size + 1, o1) :: rest))
   (done : ∀ h' tk m' nv' nk', (IntsAre nv' (wts D (l0 ++ trk i j j.val))) → (∀ y, y ≠ Str.ofString "k" → m' y = m y) → Fr h₀ h₀.objs.size h' m' → News h₀ h₀.objs.size h' ((nl, W.listOf nv'.toArray nk') :: (dl, W.listOf (drawnV (fun p => (D p : Int)) td).toArray dk) :: (pl, W.listOf (pairsV pu).toArray pk) :: (h₀.objs.size + 1 + 1 + 1 + 1 + 1, o5) :: (h₀.objs.size + 1 + 1 + 1 + 1, o4) :: (h₀.objs.size + 1 + 1 + 1, o3) :: (h₀.objs.size + 1 + 1, o2) :: (h₀.objs.size + 1, o1) :: rest) → Q .next { s with heap := h', toks := tk }) :
   wpAny (model PG w) (callerA.deeper (lawEnv h₀.objs.size fa cdv)) (exec (netK) (lawEnv h₀.objs.size fa cdv)) Q E s := by
  w_on
  replace F := Fr_knows F [((Str.ofString "nets"), .ref nl), ((Str.ofString "depths"), .ref dl), ((Str.ofString "i"), .int (i.val : Nat) ui), ((Str.ofString "j"), .int (j.val : Nat) uj)] (kn1 e_nets (kn1 e_depths (kn1 e_i (kn1 e_j kn0))))
  dsimp only [know] at F
  dsimp only [lawEnv, PG, KG, VG, S] at *
  conv in (occs := *) lawScope => all_goals whnf
  conv in (netK) => whnf
  have hnv0 : True → IntsAre nv (wts D l0) := fun _ => hnv
  clear hnv
  k_steps
  refine go ?_
  refine For_src F (by intro _; with_unfolding_all rfl) hE ?_
  k_steps
  rename IsRange _ _ _ _ _ _ _ _ => HR
  rename Fr _ _ _ _ => F2
  rename News _ _ _ _ => N2
  refine SrcLoop.mk [] (j.val) _ _ _ (fun n m₁ nw => ∃ nv' nk', nw = (nl, W.listOf nv'.toArray nk') :: (dl, W.listOf (drawnV (fun p => (D p : Int)) td).toArray dk) :: (pl, W.listOf (pairsV pu).toArray pk) :: (h₀.objs.size + 1 + 1 + 1 + 1 + 1, o5) :: (h₀.objs.size + 1 + 1 + 1 + 1, o4) :: (h₀.objs.size + 1 + 1 + 1, o3) :: (h₀.objs.size + 1 + 1, o2) :: (h₀.objs.size + 1, o1) :: rest ∧ IntsAre nv' (wts D (l0 ++ trk i j n)) ∧ ∀ y, y ≠ Str.ofString "k" → m₁ y = m y) (srcUpto (by rfl) (by omega) HR) (fun _ _ _ _ _ h => (nomatch h)) F2 N2 ⟨nv, nk, rfl, by rw [show trk i j 0 = [] from rfl, List.append_nil]; exact hnv0 trivial, fun y _ => ?_⟩ ?_ ?_
  · try dsimp only
    exact know_if e_nets (know_if e_depths (know_if e_i (know_if e_j rfl)))
  · clear HR F2 N2
    rintro n v m₁ nw h tk I o hi ⟨ti, rfl⟩ ⟨nv', nk', rfl, hv', hm⟩ hI F N
    have hn6 : n < 6 := Nat.lt_trans hi j.isLt
    obtain ⟨k, rfl, hk⟩ := fin6 hn6
    rw [Int.zero_add]
    change Fr h₀ h₀.objs.size h m₁ at F
    change News h₀ h₀.objs.size h _ at N
    have en : m₁ (Str.ofString "nets") = some (.ref nl) := (hm _ (by decide)).trans e_nets
    have ed : m₁ (Str.ofString "depths") = some (.ref dl) := (hm _ (by decide)).trans e_depths
    have ei : m₁ (Str.ofString "i") = some (.int (i.val : Nat) ui) := (hm _ (by decide)).trans e_i
    have ej : m₁ (Str.ofString "j") = some (.int (j.val : Nat) uj) := (hm _ (by decide)).trans e_j
    replace F := Fr_knows F [(Str.ofString "nets", .ref nl), (Str.ofString "depths", .ref dl), (Str.ofString "i", .int (i.val : Nat) ui), (Str.ofString "j", .int (j.val : Nat) uj)] (kn1 en (kn1 ed (kn1 ei (kn1 ej kn0))))
    dsimp only [know] at F
    have hlen : nv'.length ≤ 899 := by
      have h1 := wts_len D (l0 ++ trk i j k.val)
      rw [List.length_append, trk, List.length_map, List.length_take] at h1
      have h2 := ints_len hv'
      have h3 : min k.val allP.length ≤ 6 := Nat.min_le_right _ _
      have h4 : min k.val allP.length ≤ 5 := Nat.le_trans (Nat.min_le_left _ _) (by omega)
      rw [trk] at h2
      omega
    have hs0 : True → IntsAre nv' (wts D (l0 ++ trk i j k.val)) := fun _ => hv'
    have hsn : ∀ (x : Int) (t : Tok), IntsAre (nv' ++ [.int x t]) (wts D (l0 ++ trk i j k.val) ++ [x]) := fun x t => ints_snoc hv' x t
    clear hv'
    have hw : wts D (l0 ++ trk i j (k.val + 1)) = wts D (l0 ++ trk i j k.val) ++ wts D [(i, j, k)] := by rw [trk_snoc hk, ← List.append_assoc, wts_app]
    have Ni : @Ne Nat nl I := hI (nl, W.listOf nv'.toArray nk') (.head _)
    have N3 := News_sub N (news' := (dl, W.listOf (drawnV (fun p => (D p : Int)) td).toArray dk) :: (pl, W.listOf (pairsV pu).toArray pk) :: (h₀.objs.size + 1, o1) :: (nl, W.listOf nv'.toArray nk') :: (I, o) :: (dl, W.listOf (drawnV (fun p => (D p : Int)) td).toArray dk) :: (pl, W.listOf (pairsV pu).toArray pk) :: (h₀.objs.size + 1 + 1 + 1 + 1 + 1, o5) :: (h₀.objs.size + 1 + 1 + 1 + 1, o4) :: (h₀.objs.size + 1 + 1 + 1, o3) :: (h₀.objs.size + 1 + 1, o2) :: (h₀.objs.size + 1, o1) :: rest) (by
      (repeat with_reducible refine List.forall_mem_cons.mpr ⟨(by (repeat first | with_reducible assumption | with_reducible exact List.mem_cons_self | with_reducible refine List.mem_cons_of_mem _ ?_ | with_reducible exact List.mem_append_left _ (by assumption) | with_reducible refine List.mem_append_right _ ?_)), ?_⟩); first | exact fun _ hq => absurd hq List.not_mem_nil | (intro q hq; (repeat first | with_reducible assumption | with_reducible exact List.mem_cons_self | with_reducible refine List.mem_cons_of_mem _ ?_ | with_reducible exact List.mem_append_left _ (by assumption) | with_reducible refine List.mem_append_right _ ?_); done) | (intro q hq; rcases List.mem_append.mp hq with hq | hq <;> (repeat first | with_reducible assumption | with_reducible exact List.mem_cons_self | with_reducible refine List.mem_cons_of_mem _ ?_ | with_reducible exact List.mem_append_left _ (by assumption) | with_reducible refine List.mem_append_right _ ?_)))
    clear N
    k_steps
    refine go ?_
    refine PyProof.Rows.add_str ?_ (hsz := by rw [pairS_len, pairS_len, sizeLine_eq]; decide)
    intro t5 k5
    try dsimp only
    k_steps
    refine go ?_
    refine PyProof.Rows.add_str ?_ (hsz := by rw [six_len, sizeLine_eq]; decide)
    intro t6 k6
    rw [six_str]
    try dsimp only
    k_steps
    refine go ?_
    rename Fr _ _ _ _ => F5
    rename News _ _ _ _ => N5
    refine set_str_N (val := sixV i j k) (by rfl) F5 N5 (fun n v h => six_sign h) (by rw [show (strOf (six i j k)).cps.size = 6 from rfl]; decide) ?_
    rw [show (strOf (six i j k)).cps.size = 6 from rfl]
    intro h6 tk6 os F6 N6 hso
    clear F5 N5
    have hspan := six_span i j k
    have hml : (met (sixV i j k) 6).length < 1000 := by
      have := met_len (sixV i j k) 6
      omega
    try dsimp only
    k_steps
    refine go ?_
    rename Fr _ _ _ _ => F7
    rename News _ _ _ _ => N7
    refine set_len N7 (.head _) hso hml ?_
    generalize hmle : (met (sixV i j k) 6).length = ml at *
    try dsimp only
    cases hsb : span (i, j, k)
    · rw [hsb] at hspan
      have h4 : ¬ ((ml : Nat) : Int) = 4 := by
        intro c
        have : ml = 4 := by omega
        rw [this] at hspan
        exact absurd hspan (by decide)
      k_steps
      · exact absurd (by assumption) h4
      rename Fr _ _ _ _ => F8
      rename News _ _ _ _ => N8
      refine TurnU.intro F8 (nw := (nl, W.listOf nv'.toArray nk') :: (dl, W.listOf (drawnV (fun p => (D p : Int)) td).toArray dk) :: (pl, W.listOf (pairsV pu).toArray pk) :: (h₀.objs.size + 1 + 1 + 1 + 1 + 1, o5) :: (h₀.objs.size + 1 + 1 + 1 + 1, o4) :: (h₀.objs.size + 1 + 1 + 1, o3) :: (h₀.objs.size + 1 + 1, o2) :: (h₀.objs.size + 1, o1) :: rest) (News_sub N8 ?_) ?_ ⟨nv', nk', rfl, ?_, fun y hy => ?_⟩
      · exact sub_cons (.tail _ (.tail _ (.tail _ (.tail _ (.tail _ (.head _)))))) (sub_cons (.tail _ (.tail _ (.tail _ (.tail _ (.head _))))) (fun q hq => .tail _ (.tail _ (.tail _ (.tail _ (.tail _ (.tail _ hq)))))))
      · exact hI
      · rw [hw, show wts D [(i, j, k)] = [] by unfold wts; rw [List.filter_cons, hsb]; rfl, List.append_nil]
        exact hs0 trivial
      · try dsimp only
        rw [if_neg hy]
        exact (know_if en (know_if ed (know_if ei (know_if ej rfl)))).trans (hm y hy)
    · rw [hsb] at hspan
      have h4 : ml = 4 := eq_of_beq hspan
      subst h4
      k_steps
      refine go ?_
      rename Fr _ _ _ _ => F8
      rename News _ _ _ _ => N8
      refine append_led (vs := nv') (n := nk') (news := (I, o) :: (dl, W.listOf (drawnV (fun p => (D p : Int)) td).toArray dk) :: (pl, W.listOf (pairsV pu).toArray pk) :: (h₀.objs.size + 1 + 1 + 1 + 1 + 1, o5) :: (h₀.objs.size + 1 + 1 + 1 + 1, o4) :: (h₀.objs.size + 1 + 1 + 1, o3) :: (h₀.objs.size + 1 + 1, o2) :: (h₀.objs.size + 1, o1) :: rest) F8 (News_sub N8 ?_) ?_ (by omega) ?_
      · exact sub_cons (.tail _ (.tail _ (.tail _ (.tail _ (.head _))))) (fun q hq => .tail _ (.tail _ (.tail _ (.tail _ (.tail _ hq)))))
      · exact sub_c1 (P := fun a => a ≠ nl) (Ne.symm Ni) hne
      intro h10 F10 N10
      obtain ⟨tq, N10⟩ : ∃ tq, News _ _ _ ((nl, W.listOf (nv' ++ [Value.int ((D i : Int) + (D j : Int) + (D k : Int)) tq]).toArray (nk' + 1)) :: (I, o) :: (dl, W.listOf (drawnV (fun p => (D p : Int)) td).toArray dk) :: (pl, W.listOf (pairsV pu).toArray pk) :: (h₀.objs.size + 1 + 1 + 1 + 1 + 1, o5) :: (h₀.objs.size + 1 + 1 + 1 + 1, o4) :: (h₀.objs.size + 1 + 1 + 1, o3) :: (h₀.objs.size + 1 + 1, o2) :: (h₀.objs.size + 1, o1) :: rest) := ⟨_, N10⟩
      clear N8 F8
      try dsimp only
      k_steps
      rename Fr _ _ _ _ => F9
      rename News _ _ _ _ => N9
      refine TurnU.intro F9 (nw := (nl, W.listOf (nv' ++ [Value.int ((D i : Int) + (D j : Int) + (D k : Int)) tq]).toArray (nk' + 1)) :: (dl, W.listOf (drawnV (fun p => (D p : Int)) td).toArray dk) :: (pl, W.listOf (pairsV pu).toArray pk) :: (h₀.objs.size + 1 + 1 + 1 + 1 + 1, o5) :: (h₀.objs.size + 1 + 1 + 1 + 1, o4) :: (h₀.objs.size + 1 + 1 + 1, o3) :: (h₀.objs.size + 1 + 1, o2) :: (h₀.objs.size + 1, o1) :: rest) (News_sub N9 ?_) ?_ ⟨_, nk' + 1, rfl, ?_, fun y hy => ?_⟩
      · exact sub_cons (.tail _ (.head _)) (sub_cons (.head _) (fun q hq => .tail _ (.tail _ hq)))
      · exact sub_c1 (P := fun a => a ≠ I) Ni (fun q hq => hI q (.tail _ hq))
      · rw [hw, show wts D [(i, j, k)] = [(D i : Int) + (D j : Int) + (D k : Int)] by unfold wts; rw [List.filter_cons, hsb]; simp [w3]]
        exact hsn _ tq
      · try dsimp only
        rw [if_neg hy]
        exact (know_if en (know_if ed (know_if ei (know_if ej rfl)))).trans (hm y hy)
  · rintro h' tk m' nw F4 N4 ⟨nv', nk', rfl, hp1, hp2⟩
    exact done _ _ _ nv' nk' hp1 hp2 F4 N4
end Mine
end
section
open PySem PySem.W PySem.Calls PyProof.Rows
namespace Mine
theorem fillS18b : (PySem.Challenge.rw_ty0055_01, Mine.hd.heap_1) = (PySem.Challenge.rw_ty0055_01, Mine.hd.heap_1) := by
  k_fill
  rfl

local macro_rules | `(tactic| walk_at "exec For Name Call cons nil") => `(tactic| ((with_reducible show wpAny _ _ (exec (Stmt.For _ _ _ _ _) _) _ _ _); refine halt ?_))
theorem flat_len {α β : Type} (f : α → List β) (b : Nat) (h : ∀ x, (f x).length ≤ b) : ∀ l : List α, (l.flatMap f).length ≤ l.length * b
  | [] => by simp
  | x :: r => by
    rw [List.flatMap_cons, List.length_append, List.length_cons]
    have h1 := h x
    have h2 := flat_len f b h r
    have h3 : (r.length + 1) * b = r.length * b + b := Nat.succ_mul ..
    omega
theorem trk_len (i j : F6) (n : Nat) : (trk i j n).length ≤ 6 := by
  unfold trk; rw [List.length_map, List.length_take]; exact Nat.le_trans (Nat.min_le_right _ _) (Nat.le_refl 6)
theorem trj_len (i : F6) (n : Nat) : (trj i n).length ≤ 36 := by
  have h := flat_len (fun j => trk i j j.val) 6 (fun j => trk_len i j j.val) (allP.take n)
  have h2 : (allP.take n).length ≤ 6 := by rw [List.length_take]; exact Nat.le_trans (Nat.min_le_right _ _) (Nat.le_refl 6)
  unfold trj
  omega
theorem tri_len (n : Nat) : (tri n).length ≤ 216 := by
  have h := flat_len (fun i => trj i i.val) 36 (fun j => trj_len j j.val) (allP.take n)
  have h2 : (allP.take n).length ≤ 6 := by rw [List.length_take]; exact Nat.le_trans (Nat.min_le_right _ _) (Nat.le_refl 6)
  unfold tri
  omega
set_option maxRecDepth 100000 in
set_option maxHeartbeats 0 in
set_option pp.maxSteps 100000 in
theorem nets_j {mean : ExcName → Option Value} {loose : List Str} {mg mb : Str → Option Value} (w : World) (h₀ : Heap) (fa : Addr) (cdv : Value) (m : Str → Option Value) (s : Shared) (Q : Flow → Shared → Prop) (E : Value → Shared → Prop)
   (KX : (KG w.params).In h₀) (T : Top VG loose mean mg mb h₀) (K0 : Below callerA h₀ [] h₀) (hE : PassesOwn (model PG w) (callerA.deeper (lawEnv h₀.objs.size fa cdv)) (lawEnv h₀.objs.size fa cdv) E)
   (o1 o2 o3 o4 o5 : Obj) (nl dl pl : Addr) (nk dk pk : Nat) (D : NatF) (td pu : F6 → Tok) (nv : List Value) (l0 : List (F6 × F6 × F6)) (rest : List (Addr × Obj)) (ho1 : o1.data = .cell (some (.ref pl))) (hD : ∀ p, D p < 5) (hnv : IntsAre nv (wts D l0)) (hl0 : l0.length + 60 ≤ 900) (hne : ∀ q ∈ (dl, W.listOf (drawnV (fun p => (D p : Int)) td).toArray dk) :: (pl, W.listOf (pairsV pu).toArray pk) :: (h₀.objs.size + 1 + 1 + 1 + 1 + 1, o5) :: (h₀.objs.size + 1 + 1 + 1 + 1, o4) :: (h₀.objs.size + 1 + 1 + 1, o3) :: (h₀.objs.size + 1 + 1, o2) :: (h₀.objs.size + 1, o1) :: rest, q.1 ≠ nl) (i : F6) (ui : Tok)
    (e_nets : m (Str.ofString "nets") = some (.ref nl)) (e_depths : m (Str.ofString "depths") = some (.ref dl)) (e_i : m (Str.ofString "i") = some (.int (i.val : Nat) ui))
   (F : Fr h₀ h₀.objs.size s.heap m)
   (N : News h₀ h₀.objs.size s.heap ((nl, W.listOf nv.toArray nk) :: (dl, W.listOf (drawnV (fun p => (D p : Int)) td).toArray dk) :: (pl, W.listOf (pairsV pu).toArray pk) :: (h₀.objs.size + 1 + 1 + 1 + 1 + 1, o5) :: (h₀.objs.size + 1 + 1 + 1 + 1, o4) :: (h₀.objs.size + 1 + 1 + 1, o3) :: (h₀.objs.size + 1 + 1, o2) :: (h₀.objs.size + 1, o1) :: rest))
   (done : ∀ h' tk m' nv' nk', (IntsAre nv' (wts D (l0 ++ trj i i.val))) → (∀ y, y ≠ Str.ofString "k" → y ≠ Str.ofString "j" → m' y = m y) → Fr h₀ h₀.objs.size h' m' → News h₀ h₀.objs.size h' ((nl, W.listOf nv'.toArray nk') :: (dl, W.listOf (drawnV (fun p => (D p : Int)) td).toArray dk) :: (pl, W.listOf (pairsV pu).toArray pk) :: (h₀.objs.size + 1 + 1 + 1 + 1 + 1, o5) :: (h₀.objs.size + 1 + 1 + 1 + 1, o4) :: (h₀.objs.size + 1 + 1 + 1, o3) :: (h₀.objs.size + 1 + 1, o2) :: (h₀.objs.size + 1, o1) :: rest) → Q .next { s with heap := h', toks := tk }) :
   wpAny (model PG w) (callerA.deeper (lawEnv h₀.objs.size fa cdv)) (exec (netJ) (lawEnv h₀.objs.size fa cdv)) Q E s := by
  w_on
  replace F := Fr_knows F [((Str.ofString "nets"), .ref nl), ((Str.ofString "depths"), .ref dl), ((Str.ofString "i"), .int (i.val : Nat) ui)] (kn1 e_nets (kn1 e_depths (kn1 e_i kn0)))
  dsimp only [know] at F
  dsimp only [lawEnv, PG, KG, VG, S] at *
  conv in (occs := *) lawScope => all_goals whnf
  conv in (netJ) => whnf
  have hnv0 : True → IntsAre nv (wts D l0) := fun _ => hnv
  clear hnv
  k_steps
  refine go ?_
  refine For_src F (by intro _; with_unfolding_all rfl) hE ?_
  k_steps
  rename IsRange _ _ _ _ _ _ _ _ => HR
  rename Fr _ _ _ _ => F2
  rename News _ _ _ _ => N2
  refine SrcLoop.mk [] (i.val) _ _ _ (fun n m₁ nw => ∃ nv' nk', nw = (nl, W.listOf nv'.toArray nk') :: (dl, W.listOf (drawnV (fun p => (D p : Int)) td).toArray dk) :: (pl, W.listOf (pairsV pu).toArray pk) :: (h₀.objs.size + 1 + 1 + 1 + 1 + 1, o5) :: (h₀.objs.size + 1 + 1 + 1 + 1, o4) :: (h₀.objs.size + 1 + 1 + 1, o3) :: (h₀.objs.size + 1 + 1, o2) :: (h₀.objs.size + 1, o1) :: rest ∧ IntsAre nv' (wts D ((fun n => l0 ++ trj i n) n)) ∧ ∀ y, y ≠ Str.ofString "k" → y ≠ Str.ofString "j" → m₁ y = m y) (srcUpto (by rfl) (by omega) HR) (fun _ _ _ _ _ h => (nomatch h)) F2 N2 ⟨nv, nk, rfl, by rw [show (fun n => l0 ++ trj i n) 0 = l0 from List.append_nil _]; exact hnv0 trivial, fun y _ _ => ?_⟩ ?_ ?_
  · try dsimp only
    exact know_if e_nets (know_if e_depths (know_if e_i (rfl)))
  · clear HR F2 N2
    rintro n v m₁ nw h tk I o hi ⟨ti, rfl⟩ ⟨nv', nk', rfl, hv', hm⟩ hI F N
    have hn6 : n < 6 := by omega
    obtain ⟨j, rfl, hk⟩ := fin6 hn6
    rw [Int.zero_add]
    change Fr h₀ h₀.objs.size h m₁ at F
    change News h₀ h₀.objs.size h _ at N
    have e_nets' : m₁ (Str.ofString "nets") = some (.ref nl) := (hm _ (by decide) (by decide)).trans e_nets
    have e_depths' : m₁ (Str.ofString "depths") = some (.ref dl) := (hm _ (by decide) (by decide)).trans e_depths
    have e_i' : m₁ (Str.ofString "i") = some (.int (i.val : Nat) ui) := (hm _ (by decide) (by decide)).trans e_i
    have hs0 : True → IntsAre nv' (wts D ((fun n => l0 ++ trj i n) j.val)) := fun _ => hv'
    clear hv'
    have Ni : @Ne Nat nl I := hI (nl, W.listOf nv'.toArray nk') (.head _)
    have N3 := News_sub N (news' := (nl, W.listOf nv'.toArray nk') :: (dl, W.listOf (drawnV (fun p => (D p : Int)) td).toArray dk) :: (pl, W.listOf (pairsV pu).toArray pk) :: (h₀.objs.size + 1 + 1 + 1 + 1 + 1, o5) :: (h₀.objs.size + 1 + 1 + 1 + 1, o4) :: (h₀.objs.size + 1 + 1 + 1, o3) :: (h₀.objs.size + 1 + 1, o2) :: (h₀.objs.size + 1, o1) :: (I, o) :: rest) (by
      (repeat with_reducible refine List.forall_mem_cons.mpr ⟨(by (repeat first | with_reducible assumption | with_reducible exact List.mem_cons_self | with_reducible refine List.mem_cons_of_mem _ ?_ | with_reducible exact List.mem_append_left _ (by assumption) | with_reducible refine List.mem_append_right _ ?_)), ?_⟩); first | exact fun _ hq => absurd hq List.not_mem_nil | (intro q hq; (repeat first | with_reducible assumption | with_reducible exact List.mem_cons_self | with_reducible refine List.mem_cons_of_mem _ ?_ | with_reducible exact List.mem_append_left _ (by assumption) | with_reducible refine List.mem_append_right _ ?_); done) | (intro q hq; rcases List.mem_append.mp hq with hq | hq <;> (repeat first | with_reducible assumption | with_reducible exact List.mem_cons_self | with_reducible refine List.mem_cons_of_mem _ ?_ | with_reducible exact List.mem_append_left _ (by assumption) | with_reducible refine List.mem_append_right _ ?_)))
    clear N
    k_steps
    refine go ?_
    rename Fr _ _ _ _ => F5
    rename News _ _ _ _ => N5
    refine nets_k w h₀ fa cdv _ _ _ E KX T K0 hE o1 o2 o3 o4 o5 nl dl pl nk' dk pk D td pu nv' ((fun n => l0 ++ trj i n) j.val) ((I, o) :: rest) ho1 hD (hs0 trivial) ?_ ?_ i j ui ti ((if_neg (by decide)).trans e_nets') ((if_neg (by decide)).trans e_depths') ((if_neg (by decide)).trans e_i') rfl F5 N5 ?_
    · have := trj_len i j.val
      simp only [List.length_append]
      omega
    · intro q hq
      simp only [List.mem_cons] at hq
      rcases hq with rfl | rfl | rfl | rfl | rfl | rfl | rfl | rfl | hq
      · exact hne _ (by simp)
      · exact hne _ (by simp)
      · exact hne (h₀.objs.size + 1 + 1 + 1 + 1 + 1, o5) (by simp)
      · exact hne (h₀.objs.size + 1 + 1 + 1 + 1, o4) (by simp)
      · exact hne (h₀.objs.size + 1 + 1 + 1, o3) (by simp)
      · exact hne (h₀.objs.size + 1 + 1, o2) (by simp)
      · exact hne (h₀.objs.size + 1, o1) (by simp)
      · exact Ne.symm Ni
      · exact hne q (by simp [hq])
    rintro h6 tk6 m6 nv6 nk6 hv6 hm6 F6 N6
    have hs6 : True → IntsAre nv6 (wts D (((fun n => l0 ++ trj i n) j.val) ++ trk i j j.val)) := fun _ => hv6
    clear hv6
    try dsimp only
    k_steps
    rename Fr _ _ _ _ => F9
    rename News _ _ _ _ => N9
    refine TurnU.intro F9 (nw := (nl, W.listOf nv6.toArray nk6) :: (dl, W.listOf (drawnV (fun p => (D p : Int)) td).toArray dk) :: (pl, W.listOf (pairsV pu).toArray pk) :: (h₀.objs.size + 1 + 1 + 1 + 1 + 1, o5) :: (h₀.objs.size + 1 + 1 + 1 + 1, o4) :: (h₀.objs.size + 1 + 1 + 1, o3) :: (h₀.objs.size + 1 + 1, o2) :: (h₀.objs.size + 1, o1) :: rest) (News_sub N9 ?_) ?_ ⟨nv6, nk6, rfl, ?_, fun y hy1 hy2 => ?_⟩
    · (repeat with_reducible refine List.forall_mem_cons.mpr ⟨(by (repeat first | with_reducible assumption | with_reducible exact List.mem_cons_self | with_reducible refine List.mem_cons_of_mem _ ?_ | with_reducible exact List.mem_append_left _ (by assumption) | with_reducible refine List.mem_append_right _ ?_)), ?_⟩); first | exact fun _ hq => absurd hq List.not_mem_nil | (intro q hq; (repeat first | with_reducible assumption | with_reducible exact List.mem_cons_self | with_reducible refine List.mem_cons_of_mem _ ?_ | with_reducible exact List.mem_append_left _ (by assumption) | with_reducible refine List.mem_append_right _ ?_); done) | (intro q hq; rcases List.mem_append.mp hq with hq | hq <;> (repeat first | with_reducible assumption | with_reducible exact List.mem_cons_self | with_reducible refine List.mem_cons_of_mem _ ?_ | with_reducible exact List.mem_append_left _ (by assumption) | with_reducible refine List.mem_append_right _ ?_))
    · intro q hq
      rcases List.mem_cons.mp hq with rfl | hq
      · exact Ni
      · exact hI q (.tail _ hq)
    · show IntsAre _ (wts D (l0 ++ trj i (j.val + 1)))
      rw [trj_snoc hk, ← List.append_assoc]
      exact hs6 trivial
    · rw [hm6 _ hy1]
      rw [if_neg hy2]
      exact hm y hy1 hy2
  · rintro h' tk m' nw F4 N4 ⟨nv', nk', rfl, hp1, hp2⟩
    exact done _ _ _ nv' nk' hp1 hp2 F4 N4
set_option maxRecDepth 100000 in
set_option maxHeartbeats 0 in
set_option pp.maxSteps 100000 in
theorem nets_i {mean : ExcName → Option Value} {loose : List Str} {mg mb : Str → Option Value} (w : World) (h₀ : Heap) (fa : Addr) (cdv : Value) (m : Str → Option Value) (s : Shared) (Q : Flow → Shared → Prop) (E : Value → Shared → Prop)
   (KX : (KG w.params).In h₀) (T : Top VG loose mean mg mb h₀) (K0 : Below callerA h₀ [] h₀) (hE : PassesOwn (model PG w) (callerA.deeper (lawEnv h₀.objs.size fa cdv)) (lawEnv h₀.objs.size fa cdv) E)
   (o1 o2 o3 o4 o5 : Obj) (nl dl pl : Addr) (nk dk pk : Nat) (D : NatF) (td pu : F6 → Tok) (nv : List Value) (l0 : List (F6 × F6 × F6)) (rest : List (Addr × Obj)) (ho1 : o1.data = .cell (some (.ref pl))) (hD : ∀ p, D p < 5) (hnv : IntsAre nv (wts D l0)) (hl0 : l0.length + 300 ≤ 900) (hne : ∀ q ∈ (dl, W.listOf (drawnV (fun p => (D p : Int)) td).toArray dk) :: (pl, W.listOf (pairsV pu).toArray pk) :: (h₀.objs.size + 1 + 1 + 1 + 1 + 1, o5) :: (h₀.objs.size + 1 + 1 + 1 + 1, o4) :: (h₀.objs.size + 1 + 1 + 1, o3) :: (h₀.objs.size + 1 + 1, o2) :: (h₀.objs.size + 1, o1) :: rest, q.1 ≠ nl)
    (e_nets : m (Str.ofString "nets") = some (.ref nl)) (e_depths : m (Str.ofString "depths") = some (.ref dl))
   (F : Fr h₀ h₀.objs.size s.heap m)
   (N : News h₀ h₀.objs.size s.heap ((nl, W.listOf nv.toArray nk) :: (dl, W.listOf (drawnV (fun p => (D p : Int)) td).toArray dk) :: (pl, W.listOf (pairsV pu).toArray pk) :: (h₀.objs.size + 1 + 1 + 1 + 1 + 1, o5) :: (h₀.objs.size + 1 + 1 + 1 + 1, o4) :: (h₀.objs.size + 1 + 1 + 1, o3) :: (h₀.objs.size + 1 + 1, o2) :: (h₀.objs.size + 1, o1) :: rest))
   (done : ∀ h' tk m' nv' nk', (IntsAre nv' (wts D (l0 ++ tri 6))) → (∀ y, y ≠ Str.ofString "k" → y ≠ Str.ofString "j" → y ≠ Str.ofString "i" → m' y = m y) → Fr h₀ h₀.objs.size h' m' → News h₀ h₀.objs.size h' ((nl, W.listOf nv'.toArray nk') :: (dl, W.listOf (drawnV (fun p => (D p : Int)) td).toArray dk) :: (pl, W.listOf (pairsV pu).toArray pk) :: (h₀.objs.size + 1 + 1 + 1 + 1 + 1, o5) :: (h₀.objs.size + 1 + 1 + 1 + 1, o4) :: (h₀.objs.size + 1 + 1 + 1, o3) :: (h₀.objs.size + 1 + 1, o2) :: (h₀.objs.size + 1, o1) :: rest) → Q .next { s with heap := h', toks := tk }) :
   wpAny (model PG w) (callerA.deeper (lawEnv h₀.objs.size fa cdv)) (execs ([lawAt 18]) (lawEnv h₀.objs.size fa cdv)) Q E s := by
  w_on
  replace F := Fr_knows F [((Str.ofString "nets"), .ref nl), ((Str.ofString "depths"), .ref dl)] (kn1 e_nets (kn1 e_depths kn0))
  dsimp only [know] at F
  dsimp only [lawEnv, PG, KG, VG, S] at *
  conv in (occs := *) lawScope => all_goals whnf
  conv in (lawAt _) => whnf
  have hnv0 : True → IntsAre nv (wts D l0) := fun _ => hnv
  clear hnv
  k_steps
  refine go ?_
  refine For_src F (by intro _; with_unfolding_all rfl) hE ?_
  k_steps
  rename IsRange _ _ _ _ _ _ _ _ => HR
  rename Fr _ _ _ _ => F2
  rename News _ _ _ _ => N2
  refine SrcLoop.mk [] 6 _ _ _ (fun n m₁ nw => ∃ nv' nk', nw = (nl, W.listOf nv'.toArray nk') :: (dl, W.listOf (drawnV (fun p => (D p : Int)) td).toArray dk) :: (pl, W.listOf (pairsV pu).toArray pk) :: (h₀.objs.size + 1 + 1 + 1 + 1 + 1, o5) :: (h₀.objs.size + 1 + 1 + 1 + 1, o4) :: (h₀.objs.size + 1 + 1 + 1, o3) :: (h₀.objs.size + 1 + 1, o2) :: (h₀.objs.size + 1, o1) :: rest ∧ IntsAre nv' (wts D ((fun n => l0 ++ tri n) n)) ∧ ∀ y, y ≠ Str.ofString "k" → y ≠ Str.ofString "j" → y ≠ Str.ofString "i" → m₁ y = m y) (SrcAt.range (by rfl) HR rfl rfl) (fun _ _ _ _ _ h => (nomatch h)) F2 N2 ⟨nv, nk, rfl, by rw [show (fun n => l0 ++ tri n) 0 = l0 from List.append_nil _]; exact hnv0 trivial, fun y _ _ _ => ?_⟩ ?_ ?_
  · try dsimp only
    exact know_if e_nets (know_if e_depths (rfl))
  · clear HR F2 N2
    rintro n v m₁ nw h tk I o hi ⟨ti, rfl⟩ ⟨nv', nk', rfl, hv', hm⟩ hI F N
    have hn6 : n < 6 := by omega
    obtain ⟨i, rfl, hk⟩ := fin6 hn6
    rw [Int.zero_add]
    change Fr h₀ h₀.objs.size h m₁ at F
    change News h₀ h₀.objs.size h _ at N
    have e_nets' : m₁ (Str.ofString "nets") = some (.ref nl) := (hm _ (by decide) (by decide) (by decide)).trans e_nets
    have e_depths' : m₁ (Str.ofString "depths") = some (.ref dl) := (hm _ (by decide) (by decide) (by decide)).trans e_depths
    have hs0 : True → IntsAre nv' (wts D ((fun n => l0 ++ tri n) i.val)) := fun _ => hv'
    clear hv'
    have Ni : @Ne Nat nl I := hI (nl, W.listOf nv'.toArray nk') (.head _)
    have N3 := News_sub N (news' := (nl, W.listOf nv'.toArray nk') :: (dl, W.listOf (drawnV (fun p => (D p : Int)) td).toArray dk) :: (pl, W.listOf (pairsV pu).toArray pk) :: (h₀.objs.size + 1 + 1 + 1 + 1 + 1, o5) :: (h₀.objs.size + 1 + 1 + 1 + 1, o4) :: (h₀.objs.size + 1 + 1 + 1, o3) :: (h₀.objs.size + 1 + 1, o2) :: (h₀.objs.size + 1, o1) :: (I, o) :: rest) (by
      (repeat with_reducible refine List.forall_mem_cons.mpr ⟨(by (repeat first | with_reducible assumption | with_reducible exact List.mem_cons_self | with_reducible refine List.mem_cons_of_mem _ ?_ | with_reducible exact List.mem_append_left _ (by assumption) | with_reducible refine List.mem_append_right _ ?_)), ?_⟩); first | exact fun _ hq => absurd hq List.not_mem_nil | (intro q hq; (repeat first | with_reducible assumption | with_reducible exact List.mem_cons_self | with_reducible refine List.mem_cons_of_mem _ ?_ | with_reducible exact List.mem_append_left _ (by assumption) | with_reducible refine List.mem_append_right _ ?_); done) | (intro q hq; rcases List.mem_append.mp hq with hq | hq <;> (repeat first | with_reducible assumption | with_reducible exact List.mem_cons_self | with_reducible refine List.mem_cons_of_mem _ ?_ | with_reducible exact List.mem_append_left _ (by assumption) | with_reducible refine List.mem_append_right _ ?_)))
    clear N
    k_steps
    refine go ?_
    rename Fr _ _ _ _ => F5
    rename News _ _ _ _ => N5
    refine nets_j w h₀ fa cdv _ _ _ E KX T K0 hE o1 o2 o3 o4 o5 nl dl pl nk' dk pk D td pu nv' ((fun n => l0 ++ tri n) i.val) ((I, o) :: rest) ho1 hD (hs0 trivial) ?_ ?_ i ti ((if_neg (by decide)).trans e_nets') ((if_neg (by decide)).trans e_depths') rfl F5 N5 ?_
    · have := tri_len i.val
      simp only [List.length_append]
      omega
    · intro q hq
      simp only [List.mem_cons] at hq
      rcases hq with rfl | rfl | rfl | rfl | rfl | rfl | rfl | rfl | hq
      · exact hne _ (by simp)
      · exact hne _ (by simp)
      · exact hne (h₀.objs.size + 1 + 1 + 1 + 1 + 1, o5) (by simp)
      · exact hne (h₀.objs.size + 1 + 1 + 1 + 1, o4) (by simp)
      · exact hne (h₀.objs.size + 1 + 1 + 1, o3) (by simp)
      · exact hne (h₀.objs.size + 1 + 1, o2) (by simp)
      · exact hne (h₀.objs.size + 1, o1) (by simp)
      · exact Ne.symm Ni
      · exact hne q (by simp [hq])
    rintro h6 tk6 m6 nv6 nk6 hv6 hm6 F6 N6
    have hs6 : True → IntsAre nv6 (wts D (((fun n => l0 ++ tri n) i.val) ++ trj i i.val)) := fun _ => hv6
    clear hv6
    try dsimp only
    k_steps
    rename Fr _ _ _ _ => F9
    rename News _ _ _ _ => N9
    refine TurnU.intro F9 (nw := (nl, W.listOf nv6.toArray nk6) :: (dl, W.listOf (drawnV (fun p => (D p : Int)) td).toArray dk) :: (pl, W.listOf (pairsV pu).toArray pk) :: (h₀.objs.size + 1 + 1 + 1 + 1 + 1, o5) :: (h₀.objs.size + 1 + 1 + 1 + 1, o4) :: (h₀.objs.size + 1 + 1 + 1, o3) :: (h₀.objs.size + 1 + 1, o2) :: (h₀.objs.size + 1, o1) :: rest) (News_sub N9 ?_) ?_ ⟨nv6, nk6, rfl, ?_, fun y hy1 hy2 hy3 => ?_⟩
    · (repeat with_reducible refine List.forall_mem_cons.mpr ⟨(by (repeat first | with_reducible assumption | with_reducible exact List.mem_cons_self | with_reducible refine List.mem_cons_of_mem _ ?_ | with_reducible exact List.mem_append_left _ (by assumption) | with_reducible refine List.mem_append_right _ ?_)), ?_⟩); first | exact fun _ hq => absurd hq List.not_mem_nil | (intro q hq; (repeat first | with_reducible assumption | with_reducible exact List.mem_cons_self | with_reducible refine List.mem_cons_of_mem _ ?_ | with_reducible exact List.mem_append_left _ (by assumption) | with_reducible refine List.mem_append_right _ ?_); done) | (intro q hq; rcases List.mem_append.mp hq with hq | hq <;> (repeat first | with_reducible assumption | with_reducible exact List.mem_cons_self | with_reducible refine List.mem_cons_of_mem _ ?_ | with_reducible exact List.mem_append_left _ (by assumption) | with_reducible refine List.mem_append_right _ ?_))
    · intro q hq
      rcases List.mem_cons.mp hq with rfl | hq
      · exact Ni
      · exact hI q (.tail _ hq)
    · show IntsAre _ (wts D (l0 ++ tri (i.val + 1)))
      rw [tri_snoc hk, ← List.append_assoc]
      exact hs6 trivial
    · rw [hm6 _ hy1 hy2]
      rw [if_neg hy3]
      exact hm y hy1 hy2 hy3
  · rintro h' tk m' nw F4 N4 ⟨nv', nk', rfl, hp1, hp2⟩
    k_steps
    exact done _ _ _ nv' nk' hp1 hp2 F4 N4
end Mine
end
section
open PySem PySem.W PySem.Calls PyProof.Rows
namespace Mine
theorem fillS19 : (PySem.Challenge.rw_ty0055_01, Mine.hd.heap_1) = (PySem.Challenge.rw_ty0055_01, Mine.hd.heap_1) := by
  k_fill
  rfl

theorem wts_min {D : NatF} (hD : ∀ p, D p < 5) {M : Int} (h1 : M ∈ wts D tripL) (h2 : ∀ a, a ∈ wts D tripL → M ≤ a) : M = paL D 5 := by
  rw [paL_mst D]
  unfold wts at h1 h2
  obtain ⟨t, ht, rfl⟩ := List.mem_map.mp h1
  obtain ⟨ht1, ht2⟩ := List.mem_filter.mp ht
  obtain ⟨u, hu1, hu2, hu3⟩ := mst_is D hD
  have a1 := mst_le D hD ht1 ht2
  have a2 := h2 _ (List.mem_map.mpr ⟨u, List.mem_filter.mpr ⟨hu1, hu2⟩, rfl⟩)
  rw [hu3] at *
  omega
theorem wts_pos {D : NatF} : 0 < (wts D tripL).length := by
  unfold wts
  rw [List.length_map]
  decide
set_option maxRecDepth 100000 in
set_option maxHeartbeats 0 in
set_option pp.maxSteps 100000 in
theorem nets0_step {mean : ExcName → Option Value} {loose : List Str} {mg mb : Str → Option Value} (w : World) (h₀ : Heap) (fa : Addr) (cdv : Value) (m : Str → Option Value) (s : Shared) (Q : Flow → Shared → Prop) (E : Value → Shared → Prop)
   (KX : (KG w.params).In h₀) (T : Top VG loose mean mg mb h₀) (K0 : Below callerA h₀ [] h₀) (hE : PassesOwn (model PG w) (callerA.deeper (lawEnv h₀.objs.size fa cdv)) (lawEnv h₀.objs.size fa cdv) E)
   (rest : List (Addr × Obj))
   
   (F : Fr h₀ h₀.objs.size s.heap m)
   (N : News h₀ h₀.objs.size s.heap (rest))
   (done : ∀ h' tk m' nl nk, (m' (Str.ofString "nets") = some (.ref nl)) → ((∀ y, y ≠ Str.ofString "nets" → m' y = m y)) → (∀ p ∈ rest, p.1 < nl) → Fr h₀ h₀.objs.size h' m' → News h₀ h₀.objs.size h' ((nl, W.listOf ([] : List Value).toArray nk) :: rest) → Q .next { s with heap := h', toks := tk }) :
   wpAny (model PG w) (callerA.deeper (lawEnv h₀.objs.size fa cdv)) (execs ([lawAt 17]) (lawEnv h₀.objs.size fa cdv)) Q E s := by
  w_on
  dsimp only [lawEnv, PG, KG, VG, S] at *
  conv in (occs := *) lawScope => all_goals whnf
  conv in (lawAt _) => whnf
  k_steps
  rename Fr _ _ _ _ => F7
  rename News _ _ _ _ => N7
  refine done _ _ _ _ _ rfl (fun y hy => if_neg hy) ?_ F7 N7
  assumption
set_option maxRecDepth 100000 in
set_option maxHeartbeats 0 in
set_option pp.maxSteps 100000 in
theorem nets_step {mean : ExcName → Option Value} {loose : List Str} {mg mb : Str → Option Value} (w : World) (h₀ : Heap) (fa : Addr) (cdv : Value) (m : Str → Option Value) (s : Shared) (Q : Flow → Shared → Prop) (E : Value → Shared → Prop)
   (KX : (KG w.params).In h₀) (T : Top VG loose mean mg mb h₀) (K0 : Below callerA h₀ [] h₀) (hE : PassesOwn (model PG w) (callerA.deeper (lawEnv h₀.objs.size fa cdv)) (lawEnv h₀.objs.size fa cdv) E)
   (nl : Addr) (nk : Nat) (nv : List Value) (D : NatF) (tp : Tok) (rest : List (Addr × Obj)) (hD : ∀ p, D p < 5) (hnv : IntsAre nv (wts D tripL))
    (e_nets : m (Str.ofString "nets") = some (.ref nl)) (e_parted : m (Str.ofString "parted") = some (.int (paL D 5) tp))
   (F : Fr h₀ h₀.objs.size s.heap m)
   (N : News h₀ h₀.objs.size s.heap ((nl, W.listOf nv.toArray nk) :: rest))
   (done : ∀ h' tk m', ((∀ y, m' y = m y)) → Fr h₀ h₀.objs.size h' m' → News h₀ h₀.objs.size h' ((nl, W.listOf nv.toArray nk) :: rest) → Q .next { s with heap := h', toks := tk }) :
   wpAny (model PG w) (callerA.deeper (lawEnv h₀.objs.size fa cdv)) (execs ([lawAt 19]) (lawEnv h₀.objs.size fa cdv)) Q E s := by
  w_on
  replace F := Fr_knows F [((Str.ofString "nets"), .ref nl), ((Str.ofString "parted"), .int (paL D 5) tp)] (kn1 e_nets (kn1 e_parted kn0))
  dsimp only [know] at F
  dsimp only [lawEnv, PG, KG, VG, S] at *
  conv in (occs := *) lawScope => all_goals whnf
  conv in (lawAt _) => whnf
  have hnv0 : True → IntsAre nv (wts D tripL) := fun _ => hnv
  clear hnv
  k_steps
  refine go ?_
  rename Fr _ _ _ _ => F2
  rename News _ _ _ _ => N2
  refine min_list_N (s := ⟨_, _, _, _, _⟩) (by rfl) F2 N2 (News_isList N2 (.head _)) (hnv0 trivial) wts_pos ?_
  intro h5 M t5 tk5 F5 N5 hM1 hM2
  have hM := wts_min hD hM1 hM2
  subst hM
  clear F2 N2 hM1 hM2
  try dsimp only
  k_steps
  · exact absurd rfl (by assumption)
  rename Fr _ _ _ _ => F7
  rename News _ _ _ _ => N7
  exact done _ _ _ (fun y => know_if e_nets (know_if e_parted rfl)) F7 N7
end Mine
end
section
open PySem PySem.W PySem.Calls PyProof.Rows
namespace Mine
theorem fillS20 : (PySem.Challenge.rw_ty0055_01, Mine.hd.heap_1) = (PySem.Challenge.rw_ty0055_01, Mine.hd.heap_1) := by
  k_fill
  rfl

local macro_rules | `(tactic| walk_at "compareOp Eq str str") => `(tactic| (refine halt ?_))
local macro_rules | `(tactic| walk_at "call builtin:len") => `(tactic| (refine halt ?_))
theorem perm_map_of {α β : Type} (f : α → β) {l1 l2 : List β} (h : l1.Perm l2) : ∀ l : List α, l2 = l.map f → ∃ qs : List α, qs.Perm l ∧ l1 = qs.map f := by
  induction h with
  | nil => exact fun l e => ⟨l, .refl _, e⟩
  | cons x _ ih =>
    intro l e
    cases l with
    | nil => cases e
    | cons y r =>
      cases e
      obtain ⟨qs, h1, rfl⟩ := ih r rfl
      exact ⟨y :: qs, h1.cons y, rfl⟩
  | swap x y _ =>
    intro l e
    match l, e with
    | a :: b :: r, e =>
      cases e
      exact ⟨b :: a :: r, .swap _ _ _, rfl⟩
  | trans _ _ ih1 ih2 =>
    intro l e
    obtain ⟨qs, h1, e1⟩ := ih2 l e
    obtain ⟨rs, h2, e2⟩ := ih1 qs e1
    exact ⟨rs, h2.trans h1, e2⟩
theorem only_p {qs : List F6} (h : qs.Perm allP) (p : F6) : qs.filter (· == p) = [p] := by
  have h1 := h.filter (· == p)
  have h2 : ∀ p : F6, allP.filter (· == p) = [p] := by decide
  rw [h2 p] at h1
  exact List.perm_singleton.mp h1
theorem pair_eq : ∀ q p : F6, (pairS q == pairS p) = (q == p) := by decide +kernel
noncomputable def levI (D : NatF) (p : F6) : Int := ((levN D p : Nat) : Int)
set_option maxRecDepth 100000 in
set_option maxHeartbeats 0 in
set_option pp.maxSteps 100000 in
theorem dots_step {mean : ExcName → Option Value} {loose : List Str} {mg mb : Str → Option Value} (w : World) (h₀ : Heap) (fa : Addr) (cdv : Value) (m : Str → Option Value) (s : Shared) (Q : Flow → Shared → Prop) (E : Value → Shared → Prop)
   (KX : (KG w.params).In h₀) (T : Top VG loose mean mg mb h₀) (K0 : Below callerA h₀ [] h₀) (hE : PassesOwn (model PG w) (callerA.deeper (lawEnv h₀.objs.size fa cdv)) (lawEnv h₀.objs.size fa cdv) E)
   (o1 o2 o3 o4 o5 : Obj) (pl hol : Addr) (pk oe : Nat) (D : NatF) (pu : F6 → Tok) (hv : List Value) (rest : List (Addr × Obj)) (ho1 : o1.data = .cell (some (.ref pl))) (ho3 : o3.data = .cell (some (.ref hol))) (hs : List Str) (hH : StrsAre hv hs) (hP : hs.Perm (allP.map (rowF D))) (hD : ∀ p, D p < 5)
   
   (F : Fr h₀ h₀.objs.size s.heap m)
   (N : News h₀ h₀.objs.size s.heap ((pl, W.listOf (pairsV pu).toArray pk) :: (hol, W.listOf hv.toArray oe) :: (h₀.objs.size + 1 + 1 + 1 + 1 + 1, o5) :: (h₀.objs.size + 1 + 1 + 1 + 1, o4) :: (h₀.objs.size + 1 + 1 + 1, o3) :: (h₀.objs.size + 1 + 1, o2) :: (h₀.objs.size + 1, o1) :: rest))
   (done : ∀ h' tk m' dol dk te, (m' (Str.ofString "dots") = some (.ref dol)) → ((∀ q ∈ (pl, W.listOf (pairsV pu).toArray pk) :: (hol, W.listOf hv.toArray oe) :: (h₀.objs.size + 1 + 1 + 1 + 1 + 1, o5) :: (h₀.objs.size + 1 + 1 + 1 + 1, o4) :: (h₀.objs.size + 1 + 1 + 1, o3) :: (h₀.objs.size + 1 + 1, o2) :: (h₀.objs.size + 1, o1) :: rest, q.1 ≠ dol)) → (∀ y, y ≠ Str.ofString "dots" → m' y = m y) → Fr h₀ h₀.objs.size h' m' → News h₀ h₀.objs.size h' ((dol, W.listOf (drawnV (levI D) te).toArray dk) :: (pl, W.listOf (pairsV pu).toArray pk) :: (hol, W.listOf hv.toArray oe) :: (h₀.objs.size + 1 + 1 + 1 + 1 + 1, o5) :: (h₀.objs.size + 1 + 1 + 1 + 1, o4) :: (h₀.objs.size + 1 + 1 + 1, o3) :: (h₀.objs.size + 1 + 1, o2) :: (h₀.objs.size + 1, o1) :: rest) → Q .next { s with heap := h', toks := tk }) :
   wpAny (model PG w) (callerA.deeper (lawEnv h₀.objs.size fa cdv)) (execs ([lawAt 20]) (lawEnv h₀.objs.size fa cdv)) Q E s := by
  w_on
  dsimp only [lawEnv, PG, KG, VG, S] at *
  conv in (occs := *) lawScope => all_goals whnf
  conv in (lawAt _) => whnf
  obtain ⟨qs, hq, rfl⟩ := perm_map_of (rowF D) hP allP rfl
  have hlen : hv.length = 6 := by rw [Mine.StrsAre.len hH, List.length_map, hq.length_eq]; rfl
  have hql : qs.length = 6 := hq.length_eq
  have hH0 : True → StrsAre hv (qs.map (rowF D)) := fun _ => hH
  clear hH
  k_steps
  refine go ?_
  refine assign_comp2 F (by rfl) (by rfl) (by decide) (by rfl) (by decide) (by rfl) (by rfl) (by decide) (by intro _; with_unfolding_all rfl) (by intro _ _; with_unfolding_all rfl) (by rfl) (by rfl) ?_
  k_steps
  refine SrcComp2.mk [(pl, W.listOf (pairsV pu).toArray pk)] 6 _ _ (fun i ys nw => nw = (pl, W.listOf (pairsV pu).toArray pk) :: (hol, W.listOf hv.toArray oe) :: (h₀.objs.size + 1 + 1 + 1 + 1 + 1, o5) :: (h₀.objs.size + 1 + 1 + 1 + 1, o4) :: (h₀.objs.size + 1 + 1 + 1, o3) :: (h₀.objs.size + 1 + 1, o2) :: (h₀.objs.size + 1, o1) :: rest ∧ IntsAre ys ((allP.take i).map (levI D))) (SrcAt.list (by rfl) N (.head _)) (fun _ _ _ h p hp => ?_) F N ⟨rfl, .nil⟩ ?_ ?_
  · rw [h.1, List.mem_singleton.mp hp]; exact .head _
  · clear F N
    rintro g i v ys nw I oI C oC D2 m₂ h tk E' hi hv2 ⟨rfl, hS⟩ hC hx Fc Nc off
    obtain ⟨p, hp, _, rfl⟩ := pairs_get hv2
    have hS0 : True → IntsAre ys ((allP.take i).map (levI D)) := fun _ => hS
    clear hS
    have Nc2 := News_sub Nc (news' := (C, oC) :: (h₀.objs.size + 1 + 1 + 1, o3) :: (I, oI) :: (D2, LCg.lst ys) :: (pl, W.listOf (pairsV pu).toArray pk) :: (hol, W.listOf hv.toArray oe) :: (h₀.objs.size + 1 + 1 + 1 + 1 + 1, o5) :: (h₀.objs.size + 1 + 1 + 1 + 1, o4) :: (h₀.objs.size + 1 + 1 + 1, o3) :: (h₀.objs.size + 1 + 1, o2) :: (h₀.objs.size + 1, o1) :: rest) (by
      (repeat with_reducible refine List.forall_mem_cons.mpr ⟨(by (repeat first | with_reducible assumption | with_reducible exact List.mem_cons_self | with_reducible refine List.mem_cons_of_mem _ ?_ | with_reducible exact List.mem_append_left _ (by assumption) | with_reducible refine List.mem_append_right _ ?_)), ?_⟩); first | exact fun _ hq => absurd hq List.not_mem_nil | (intro q hq; (repeat first | with_reducible assumption | with_reducible exact List.mem_cons_self | with_reducible refine List.mem_cons_of_mem _ ?_ | with_reducible exact List.mem_append_left _ (by assumption) | with_reducible refine List.mem_append_right _ ?_); done) | (intro q hq; rcases List.mem_append.mp hq with hq | hq <;> (repeat first | with_reducible assumption | with_reducible exact List.mem_cons_self | with_reducible refine List.mem_cons_of_mem _ ?_ | with_reducible exact List.mem_append_left _ (by assumption) | with_reducible refine List.mem_append_right _ ?_)))
    change Fr h₀ h₀.objs.size h m at Fc
    change News h₀ h₀.objs.size h _ at Nc2
    change News h₀ h₀.objs.size h _ at Nc
    k_steps
    refine Src2.mk [(hol, W.listOf hv.toArray oe)] 6 _ (fun k ys nw => nw = (pl, W.listOf (pairsV pu).toArray pk) :: (hol, W.listOf hv.toArray oe) :: (h₀.objs.size + 1 + 1 + 1 + 1 + 1, o5) :: (h₀.objs.size + 1 + 1 + 1 + 1, o4) :: (h₀.objs.size + 1 + 1 + 1, o3) :: (h₀.objs.size + 1 + 1, o2) :: (h₀.objs.size + 1, o1) :: rest ∧ IntsAre ys ((allP.take i).map (levI D) ++ ((qs.take k).filter (· == p)).map (levI D))) _ _ rfl (by rw [← hlen]; exact SrcAt.list (by rfl) Nc (.tail _ (.tail _ (.tail _ (.tail _ (.head _)))))) Fc Nc (fun k ys nw h => ⟨fun q hq => ?_, ?_⟩) ⟨rfl, ?_⟩ (fun ys nw h => ⟨h.1, ?_⟩) ?_
    · rw [h.1, List.mem_singleton.mp hq]; exact .tail _ (.head _)
    · rw [ints_len h.2, List.length_append, List.length_map, List.length_map]
      have h1 : (allP.take i).length ≤ 6 := by rw [List.length_take]; exact Nat.le_trans (Nat.min_le_right _ _) (Nat.le_refl 6)
      have h2 := List.length_filter_le (· == p) (qs.take k)
      have h3 : (qs.take k).length ≤ 6 := by rw [List.length_take, hql]; exact Nat.min_le_right _ _
      omega
    · simpa using hS0 trivial
    · have h2 := h.2
      rw [show qs.take 6 = qs from List.take_of_length_le (by omega), only_p hq] at h2
      rw [take_snoc hp, List.map_append]
      exact h2
    · clear Fc Nc Nc2 hS0 hx hC off
      rintro k v2 ys nw I2 oI2 oC m₂ h tk E' hk hvk ⟨rfl, hS⟩ hC hx1 hx2 Fc Nc off off1 ⟨ne1, ne2, ne3⟩
      obtain ⟨y, ty, hy, rfl⟩ := Mine.StrsAre.getAt (hH0 trivial) hvk
      rw [List.getElem?_map] at hy
      obtain ⟨q, hqk, rfl⟩ := Option.map_eq_some_iff.mp hy
      have hl5 := lev_lt hD q
      have hS0 : True → IntsAre ys ((allP.take i).map (levI D) ++ ((qs.take k).filter (· == p)).map (levI D)) := fun _ => hS
      have hsn : ∀ (x : Int) (t : Tok), IntsAre (ys ++ [.int x t]) (((allP.take i).map (levI D) ++ ((qs.take k).filter (· == p)).map (levI D)) ++ [x]) := fun x t => ints_snoc hS x t
      clear hS
      have Nc2 := News_sub Nc (news' := (C, oC) :: (I2, oI2) :: (D2, LCg.lst ys) :: (I, oI) :: (pl, W.listOf (pairsV pu).toArray pk) :: (hol, W.listOf hv.toArray oe) :: (h₀.objs.size + 1 + 1 + 1 + 1 + 1, o5) :: (h₀.objs.size + 1 + 1 + 1 + 1, o4) :: (h₀.objs.size + 1 + 1 + 1, o3) :: (h₀.objs.size + 1 + 1, o2) :: (h₀.objs.size + 1, o1) :: rest) (by
        (repeat with_reducible refine List.forall_mem_cons.mpr ⟨(by (repeat first | with_reducible assumption | with_reducible exact List.mem_cons_self | with_reducible refine List.mem_cons_of_mem _ ?_ | with_reducible exact List.mem_append_left _ (by assumption) | with_reducible refine List.mem_append_right _ ?_)), ?_⟩); first | exact fun _ hq => absurd hq List.not_mem_nil | (intro q hq; (repeat first | with_reducible assumption | with_reducible exact List.mem_cons_self | with_reducible refine List.mem_cons_of_mem _ ?_ | with_reducible exact List.mem_append_left _ (by assumption) | with_reducible refine List.mem_append_right _ ?_); done) | (intro q hq; rcases List.mem_append.mp hq with hq | hq <;> (repeat first | with_reducible assumption | with_reducible exact List.mem_cons_self | with_reducible refine List.mem_cons_of_mem _ ?_ | with_reducible exact List.mem_append_left _ (by assumption) | with_reducible refine List.mem_append_right _ ?_)))
      change Fr h₀ h₀.objs.size h m at Fc
      change News h₀ h₀.objs.size h _ at Nc2
      clear Nc
      refine wpAny_tests_one ?_
      k_steps
      refine go ?_
      rename Fr _ _ _ _ => F7
      rename News _ _ _ _ => N7
      refine slice_strN_sn (s := ⟨_, _, _, _, _⟩) F7 N7 ?_ (hsz := by rw [rowF, rowS_len, sizeLine_eq]; omega)
      intro h8 t8' k8' F8 N8
      rw [show Txt.slice (rowF D q) (some (-2)) none = pairS q from row_s2 _ (by omega) q]
      clear F7 N7
      try dsimp only
      k_steps
      refine go ?_
      refine PyProof.Rows.eq_str ?_
      rw [pair_eq]
      try dsimp only
      have hf : (qs.take (k + 1)).filter (· == p) = (qs.take k).filter (· == p) ++ (if (q == p) = true then [q] else []) := by
        rw [take_snoc hqk, List.filter_append]
        congr 1
        cases hb : (q == p) <;> simp [hb]
      cases hb : (q == p)
      · rw [hb] at hf
        k_steps
        rename Fr _ _ _ _ => F9
        rename News _ _ _ _ => N9
        refine LCg.CompEnd.intro F9 N9 ((I, oI) :: (pl, W.listOf (pairsV pu).toArray pk) :: (hol, W.listOf hv.toArray oe) :: (h₀.objs.size + 1 + 1 + 1 + 1 + 1, o5) :: (h₀.objs.size + 1 + 1 + 1 + 1, o4) :: (h₀.objs.size + 1 + 1 + 1, o3) :: (h₀.objs.size + 1 + 1, o2) :: (h₀.objs.size + 1, o1) :: rest) ?_ off trivial ⟨rfl, rfl, ?_⟩
        · (repeat with_reducible refine List.forall_mem_cons.mpr ⟨(by (repeat first | with_reducible assumption | with_reducible exact List.mem_cons_self | with_reducible refine List.mem_cons_of_mem _ ?_ | with_reducible exact List.mem_append_left _ (by assumption) | with_reducible refine List.mem_append_right _ ?_)), ?_⟩); first | exact fun _ hq => absurd hq List.not_mem_nil | (intro q hq; (repeat first | with_reducible assumption | with_reducible exact List.mem_cons_self | with_reducible refine List.mem_cons_of_mem _ ?_ | with_reducible exact List.mem_append_left _ (by assumption) | with_reducible refine List.mem_append_right _ ?_); done) | (intro q hq; rcases List.mem_append.mp hq with hq | hq <;> (repeat first | with_reducible assumption | with_reducible exact List.mem_cons_self | with_reducible refine List.mem_cons_of_mem _ ?_ | with_reducible exact List.mem_append_left _ (by assumption) | with_reducible refine List.mem_append_right _ ?_))
        · rw [hf]
          simpa using hS0 trivial
      · rw [hb] at hf
        k_steps
        refine go ?_
        refine PyProof.Rows.len_str (by rw [rowF, rowS_len]; omega) ?_
        rw [rowF, rowS_len]
        try dsimp only
        k_steps
        rename Fr _ _ _ _ => F9
        rename News _ _ _ _ => N9
        refine LCg.CompEnd.intro F9 N9 ((I, oI) :: (pl, W.listOf (pairsV pu).toArray pk) :: (hol, W.listOf hv.toArray oe) :: (h₀.objs.size + 1 + 1 + 1 + 1 + 1, o5) :: (h₀.objs.size + 1 + 1 + 1 + 1, o4) :: (h₀.objs.size + 1 + 1 + 1, o3) :: (h₀.objs.size + 1 + 1, o2) :: (h₀.objs.size + 1, o1) :: rest) ?_ off trivial ⟨rfl, rfl, ?_⟩
        · (repeat with_reducible refine List.forall_mem_cons.mpr ⟨(by (repeat first | with_reducible assumption | with_reducible exact List.mem_cons_self | with_reducible refine List.mem_cons_of_mem _ ?_ | with_reducible exact List.mem_append_left _ (by assumption) | with_reducible refine List.mem_append_right _ ?_)), ?_⟩); first | exact fun _ hq => absurd hq List.not_mem_nil | (intro q hq; (repeat first | with_reducible assumption | with_reducible exact List.mem_cons_self | with_reducible refine List.mem_cons_of_mem _ ?_ | with_reducible exact List.mem_append_left _ (by assumption) | with_reducible refine List.mem_append_right _ ?_); done) | (intro q hq; rcases List.mem_append.mp hq with hq | hq <;> (repeat first | with_reducible assumption | with_reducible exact List.mem_cons_self | with_reducible refine List.mem_cons_of_mem _ ?_ | with_reducible exact List.mem_append_left _ (by assumption) | with_reducible refine List.mem_append_right _ ?_))
        · rw [hf, List.map_append, ← List.append_assoc]
          show IntsAre _ (_ ++ [levI D q])
          rw [← show ((levN D q + 1 + 2 : Nat) : Int) - 3 = levI D q by unfold levI; omega]
          exact hsn _ _
  · clear F N
    rintro D2 ys nw ⟨rfl, hS⟩ off h tk F2 N2
    obtain ⟨te, rfl⟩ := six_of hS
    k_steps
    rename Fr _ _ _ _ => F7
    rename News _ _ _ _ => N7
    exact done _ _ _ D2 _ te rfl (off1_mem off) (fun y hy => if_neg hy) F7 N7
end Mine
end
section
open PySem PySem.W PySem.Calls PyProof.Rows PySem.Flt
namespace Mine
/-- what int / int gives -/
noncomputable def qF (a b : Int) : UInt64 := Float64.ofFrac (decide (a < 0) != decide (b < 0)) a.natAbs b.natAbs
noncomputable def flEq (a b : UInt64) : Bool := Float64.cmp a b == some Ordering.eq
/-- two of the three are alike and strongest -/
noncomputable def two3 (a b c : Int) : Bool := (a == b && decide (c ≤ a)) || (a == c && decide (b ≤ a)) || (b == c && decide (a ≤ b))
noncomputable def mx3 (a b c : Int) : Int := max (max a b) c
noncomputable def mn3 (a b c : Int) : Int := min (min a b) c
/-- int(hue * 6 + 0.5) -/
noncomputable def hueI (h : UInt64) : UInt64 := Float64.add (Float64.mul h 4618441417868443648) 4602678819172646912
noncomputable def colOk (a b c : Int) : Bool :=
  let F := hsvF (qF a 4) (qF b 4) (qF c 4)
  hsvOk (qF a 4) (qF b 4) (qF c 4) && (!(mx3 a b c - mn3 a b c == 0) || flEq F.1 0) && Float64.isFinite (hueI F.1) && (toInt Float64.truncOf (hueI F.1) == sixthF a b c) && flEq F.2.2 (qF (mx3 a b c) 4) &&
    flEq F.2.1 (if mx3 a b c - mn3 a b c = 0 then 0 else qF (mx3 a b c - mn3 a b c) (mx3 a b c))
noncomputable def upto (n : Nat) : List Int := (List.range n).map Int.ofNat
theorem col_all : ((upto 5).all fun a => (upto 5).all fun b => (upto 5).all fun c => !two3 a b c || colOk a b c) = true := by decide +kernel
noncomputable def hlsOkI (a b c : Int) : Bool :=
  let F := hlsF (qF a 8) (qF b 8) (qF c 8)
  let s := mx3 a b c - mn3 a b c
  let t := mx3 a b c + mn3 a b c
  hlsOk (qF a 8) (qF b 8) (qF c 8) && (!(s == 0) || flEq F.1 0) && Float64.isFinite (hueI F.1) && (toInt Float64.truncOf (hueI F.1) == sixthF a b c) && flEq F.2.1 (qF t 16) &&
    flEq F.2.2 (if s = 0 then 0 else qF s (min t (16 - t)))
theorem hls_all : ((upto 9).all fun a => (upto 9).all fun b => (upto 9).all fun c => !two3 a b c || hlsOkI a b c) = true := by decide +kernel
end Mine
end
section
open PySem PySem.W PySem.Calls PyProof.Rows
namespace Mine
theorem fillS21 : (PySem.Challenge.rw_ty0055_01, Mine.hd.heap_1) = (PySem.Challenge.rw_ty0055_01, Mine.hd.heap_1) := by
  k_fill
  rfl
local macro_rules | `(tactic| walk_at "call ref") => `(tactic| ((with_reducible show wpAny _ _ (call (Value.ref 96) _ _) _ _ _); refine halt ?_))

local macro_rules | `(tactic| walk_at "call builtin:max") => `(tactic| (refine halt ?_))
local macro_rules | `(tactic| walk_at "call builtin:min") => `(tactic| (refine halt ?_))
local macro_rules | `(tactic| walk_at "binaryOp Div int int") => `(tactic| (refine halt ?_))
local macro_rules | `(tactic| walk_at "subscriptTail Name Name ref int") => `(tactic| ((with_reducible show wpAny _ _ (subscriptTail _ _ (Value.ref _) (Value.int (Nat.cast (Fin.val _)) _)) _ _ _); (rename News _ _ _ _ => Nz); (first | refine drawn_item Nz (by repeat first | exact List.Mem.head _ | refine List.Mem.tail _ ?_) ?_); (try dsimp only)))

section
variable {prog : Program} {w : World} {A : Around} {E : Value → Shared → Prop} {s : Shared} {Q : Value → Shared → Prop} {a b : Int} {t u : Tok}
theorem div_q (hA : A.handled = none) (ha : a.natAbs < 1000) (hb : b ≠ 0) (h : ∀ t, Q (.float (qF a b) t) { s with toks := s.toks + 1 }) : wpAny (model prog w) A (binaryOp .Div (.int a t) (.int b u)) Q E s := by
  refine PySem.Flt.div_ii_fits hA ?_ (fun e => absurd e hb) fun _ _ => h _
  generalize hn : (1023 : Nat) = n
  have h2 : 2 ^ 10 ≤ 2 ^ n := Nat.pow_le_pow_right (by decide) (by omega)
  have h3 : (2 : Nat) ^ 10 = 1024 := by decide
  omega
end
theorem mx_of {a b c M : Int} (h1 : M ∈ [a, b, c]) (h2 : ∀ x, x ∈ [a, b, c] → x ≤ M) : M = mx3 a b c := by
  simp at h1 h2
  unfold mx3
  omega
theorem mn_of {a b c M : Int} (h1 : M ∈ [a, b, c]) (h2 : ∀ x, x ∈ [a, b, c] → M ≤ x) : M = mn3 a b c := by
  simp at h1 h2
  unfold mn3
  omega
noncomputable def colAt (n : Nat) : Stmt := (forBody (lawAt 21)).getD n (.Pass ⟨0, 0, 0, 0⟩)
set_option maxRecDepth 100000 in
set_option maxHeartbeats 0 in
set_option pp.maxSteps 100000 in
theorem col_body {mean : ExcName → Option Value} {loose : List Str} {mg mb : Str → Option Value} (w : World) (h₀ : Heap) (fa : Addr) (cdv : Value) (m : Str → Option Value) (s : Shared) (Q : Flow → Shared → Prop) (E : Value → Shared → Prop)
   (KX : (KG w.params).In h₀) (T : Top VG loose mean mg mb h₀) (K0 : Below callerA h₀ [] h₀) (hE : PassesOwn (model PG w) (callerA.deeper (lawEnv h₀.objs.size fa cdv)) (lawEnv h₀.objs.size fa cdv) E)
   (dol : Addr) (dk : Nat) (d : F6 → Int) (td : F6 → Tok) (p q r : F6) (ui uj uk : Tok) (rest : List (Addr × Obj)) (hd5 : ∀ p, 0 ≤ d p ∧ d p < 5) (hc : colOk (d p) (d q) (d r) = true)
    (e_dots : m (Str.ofString "dots") = some (.ref dol)) (e_i : m (Str.ofString "i") = some (.int (p.val : Nat) ui)) (e_j : m (Str.ofString "j") = some (.int (q.val : Nat) uj)) (e_k : m (Str.ofString "k") = some (.int (r.val : Nat) uk))
   (F : Fr h₀ h₀.objs.size s.heap m)
   (N : News h₀ h₀.objs.size s.heap ((dol, W.listOf (drawnV d td).toArray dk) :: rest))
   (done : ∀ h' tk m' ll a b c M K H SS V ta tb tc t5 tS u1 u2 u3, ((M < 5 ∧ 0 ≤ M)) → ((K < 5 ∧ 0 ≤ K ∧ K ≤ M)) → ((!M - K == 0 || flEq H 0) = true) → (Float64.isFinite (hueI H) = true) → ((Flt.toInt Float64.truncOf (hueI H) == sixthF a b c) = true) → (flEq V (qF M 4) = true) → (flEq SS (if M - K = 0 then 0 else qF (M - K) M) = true) → (m' (Str.ofString "lights") = some (.ref ll)) → (m' (Str.ofString "most") = some (.int M t5)) → (m' (Str.ofString "spread") = some (.int (M - K) tS)) → (m' (Str.ofString "hue") = some (.float H u1)) → (m' (Str.ofString "share") = some (.float SS u2)) → (m' (Str.ofString "value") = some (.float V u3)) → ((∀ y, y ∉ [Str.ofString "lights", Str.ofString "most", Str.ofString "spread", Str.ofString "hue", Str.ofString "share", Str.ofString "value"] → m' y = m y)) → Fr h₀ h₀.objs.size h' m' → News h₀ h₀.objs.size h' ((ll, W.listOf #[Value.int a ta, Value.int b tb, Value.int c tc] 0) :: (dol, W.listOf (drawnV d td).toArray dk) :: rest) → Q .next { s with heap := h', toks := tk }) :
   wpAny (model PG w) (callerA.deeper (lawEnv h₀.objs.size fa cdv)) (execs ([colAt 0, colAt 1, colAt 2, colAt 3]) (lawEnv h₀.objs.size fa cdv)) Q E s := by
  w_on
  replace F := Fr_knows F [((Str.ofString "dots"), .ref dol), ((Str.ofString "i"), .int (p.val : Nat) ui), ((Str.ofString "j"), .int (q.val : Nat) uj), ((Str.ofString "k"), .int (r.val : Nat) uk)] (kn1 e_dots (kn1 e_i (kn1 e_j (kn1 e_k kn0))))
  dsimp only [know] at F
  dsimp only [lawEnv, PG, KG, VG, S] at *
  conv in (occs := *) lawScope => all_goals whnf
  conv in (occs := *) (colAt _) => all_goals whnf
  have hp := hd5 p
  have hq := hd5 q
  have hr := hd5 r
  generalize hda : d p = a at hc hp
  generalize hdb : d q = b at hc hq
  generalize hdc : d r = c at hc hr
  k_steps
  refine go ?_
  rename Fr _ _ _ _ => F2
  rename News _ _ _ _ => N2
  rename_i ll hA l1 hB
  rw [hda, hdb, hdc] at N2
  generalize td p = ta at N2
  generalize td q = tb at N2
  generalize td r = tc at N2
  have hi : True → IntsAre [Value.int a ta, Value.int b tb, Value.int c tc] [a, b, c] := fun _ => .cons _ _ (.cons _ _ (.cons _ _ .nil))
  refine max_list_N (s := ⟨_, _, _, _, _⟩) (by rfl) F2 N2 (News_isList N2 (.head _)) (hi trivial) (Nat.succ_pos _) ?_
  intro h5 M t5 tk5 F5 N5 hM1 hM2
  have hM := mx_of hM1 hM2
  subst hM
  clear F2 N2 hM1 hM2
  try dsimp only
  k_steps
  refine go ?_
  rename Fr _ _ _ _ => F2
  rename News _ _ _ _ => N2
  refine min_list_N (s := ⟨_, _, _, _, _⟩) (by rfl) F2 N2 (News_isList N2 (.head _)) (hi trivial) (Nat.succ_pos _) ?_
  intro h6 M t6 tk6 F6 N6 hM1 hM2
  have hM := mn_of hM1 hM2
  subst hM
  clear F2 N2 hM1 hM2 hi
  have hmx : mx3 a b c < 5 ∧ 0 ≤ mx3 a b c := by unfold mx3; omega
  have hmn : mn3 a b c < 5 ∧ 0 ≤ mn3 a b c ∧ mn3 a b c ≤ mx3 a b c := by unfold mn3 mx3; omega
  have hpos : mx3 a b c - mn3 a b c ≠ 0 → mx3 a b c ≠ 0 := by omega
  unfold colOk at hc
  simp only [Bool.and_eq_true] at hc
  obtain ⟨⟨⟨⟨⟨c1, c2⟩, c3⟩, c4⟩, c5⟩, c6⟩ := hc
  generalize mx3 a b c = M at *
  generalize mn3 a b c = K at *
  try dsimp only
  k_steps
  refine go ?_
  rw [show [a, b, c].getD (Int.toNat 0) 0 = a from rfl]
  refine div_q (by rfl) (by omega) (by decide) ?_
  intro t7
  generalize hA1 : qF a 4 = A1 at c1 c2 c3 c4 c5 c6
  try dsimp only
  k_steps
  refine go ?_
  rw [show [a, b, c].getD (Int.toNat 1) 0 = b from rfl]
  refine div_q (by rfl) (by omega) (by decide) ?_
  intro t8
  generalize hB1 : qF b 4 = B1 at c1 c2 c3 c4 c5 c6
  try dsimp only
  k_steps
  refine go ?_
  rw [show [a, b, c].getD (Int.toNat 2) 0 = c from rfl]
  refine div_q (by rfl) (by omega) (by decide) ?_
  intro t9
  generalize hC1 : qF c 4 = C1 at c1 c2 c3 c4 c5 c6
  try dsimp only
  k_steps
  refine go ?_
  rename Fr _ _ _ _ => F7
  rename News _ _ _ _ => N7
  refine CallSpec.use (hsv_spec w A1 B1 C1 t7 t8 t9 ((ll, W.listOf #[Value.int a ta, Value.int b tb, Value.int c tc] 0) :: (dol, W.listOf (drawnV d td).toArray dk) :: rest) c1) (by assumption) F7 (by assumption) N7 (by assumption) rfl rfl ?_ ?_ ?_
  · ktr_room
  · ktr_units
  rintro v nw h' tk' ⟨TD, u1, u2, u3, rfl, rfl, hlt⟩ F8 N8
  clear F7 N7
  generalize hH : (hsvF A1 B1 C1).1 = H at *
  generalize hS : (hsvF A1 B1 C1).2.1 = SS at *
  generalize hV : (hsvF A1 B1 C1).2.2 = V at *
  try dsimp only
  k_steps
  rename Fr _ _ _ _ => F9
  rename News _ _ _ _ => N9
  refine done _ _ _ ll a b c M K H SS V ta tb tc t5 _ u1 u2 u3 hmx hmn c2 c3 c4 c5 c6 rfl rfl rfl rfl rfl rfl (fun y hy => ?_) F9 (News_sub N9 fun q hq => .tail _ hq)
  simp only [List.mem_cons, List.not_mem_nil, or_false, not_or] at hy
  rw [if_neg hy.2.2.2.2.2, if_neg hy.2.2.2.2.1, if_neg hy.2.2.2.1, if_neg hy.2.2.1, if_neg hy.2.1, if_neg hy.1]
  exact know_if e_dots (know_if e_i (know_if e_j (know_if e_k rfl)))
end Mine
end
section
open PySem PySem.W PySem.Calls PyProof.Rows
namespace Mine
local macro_rules | `(tactic| walk_at "one more line") => `(tactic| skip)
theorem fillS21b : (PySem.Challenge.rw_ty0055_01, Mine.hd.heap_1) = (PySem.Challenge.rw_ty0055_01, Mine.hd.heap_1) := by
  k_fill
  rfl
local macro_rules | `(tactic| walk_at "call ref") => `(tactic| ((with_reducible show wpAny _ _ (call (Value.ref 266) _ _) _ _ _); refine halt ?_))

local macro_rules | `(tactic| walk_at "binaryOp Div int int") => `(tactic| (refine halt ?_))
local macro_rules | `(tactic| walk_at "compareOp NotEq float float") => `(tactic| (refine halt ?_))
local macro_rules | `(tactic| walk_at "call type:int") => `(tactic| (refine halt ?_))
local macro_rules | `(tactic| walk_at "binaryOp Mult float int") => `(tactic| (refine halt ?_))
section
variable {prog : Program} {w : World} {A : Around} {E : Value → Shared → Prop} {s : Shared} {Q : Value → Shared → Prop} {a b : UInt64} {t u : Tok}
theorem mul_6 (h : ∀ t, Q (.float (Float64.mul a 4618441417868443648) t) { s with toks := s.toks + 1 }) : wpAny (model prog w) A (binaryOp .Mult (.float a t) (.int 6 u)) Q E s := by
  refine mul_fi_fits ?_ ?_
  · generalize hn : (1023 : Nat) = n
    have h2 : 2 ^ 10 ≤ 2 ^ n := Nat.pow_le_pow_right (by decide) (by omega)
    have h3 : (2 : Nat) ^ 10 = 1024 := by decide
    omega
  · rw [show Float64.ofInt 6 = 4618441417868443648 by decide +kernel]
    exact h _
theorem int_hue (hA : A.handled = none) {H : UInt64} (hf : Float64.isFinite (hueI H) = true) (h : ∀ t, Q (.int (Flt.toInt Float64.truncOf (hueI H)) t) { s with toks := s.toks + 1 }) :
    wpAny (model prog w) A (call (.type "int") [.float (Float64.add (Float64.mul H 4618441417868443648) 4602678819172646912) t]) Q E s := by
  refine PySem.Flt.call_int_float3 hA (fun c => ?_) (fun c => ?_) fun _ => h _
  · rw [show Float64.add (Float64.mul H 4618441417868443648) 4602678819172646912 = hueI H from rfl, PySem.Flt.not_nan_of_finite hf] at c
    cases c
  · rw [show Float64.add (Float64.mul H 4618441417868443648) 4602678819172646912 = hueI H from rfl, PySem.Flt.not_inf_of_finite hf] at c
    cases c
theorem ne_no (e : flEq a b = true) (h : Q (.bool false) s) : wpAny (model prog w) A (compareOp .NotEq (.float a t) (.float b u)) Q E s := by
  refine AutoFloatOps.ne_0 ?_
  have : (Float64.cmp a b != some Ordering.eq) = false := by
    show (!(flEq a b)) = false
    rw [e]; rfl
  rw [this]
  exact h
end
set_option maxRecDepth 100000 in
set_option maxHeartbeats 0 in
set_option pp.maxSteps 100000 in
theorem col_if1 {mean : ExcName → Option Value} {loose : List Str} {mg mb : Str → Option Value} (w : World) (h₀ : Heap) (fa : Addr) (cdv : Value) (m : Str → Option Value) (s : Shared) (Q : Flow → Shared → Prop) (E : Value → Shared → Prop)
   (KX : (KG w.params).In h₀) (T : Top VG loose mean mg mb h₀) (K0 : Below callerA h₀ [] h₀) (hE : PassesOwn (model PG w) (callerA.deeper (lawEnv h₀.objs.size fa cdv)) (lawEnv h₀.objs.size fa cdv) E)
   (ll : Addr) (a b c Sp : Int) (H : UInt64) (ta tb tc tS u1 : Tok) (rest : List (Addr × Obj)) (c2 : (!Sp == 0 || flEq H 0) = true) (c3 : Float64.isFinite (hueI H) = true) (c4 : (Flt.toInt Float64.truncOf (hueI H) == sixthF a b c) = true)
    (e_lights : m (Str.ofString "lights") = some (.ref ll)) (e_spread : m (Str.ofString "spread") = some (.int Sp tS)) (e_hue : m (Str.ofString "hue") = some (.float H u1))
   (F : Fr h₀ h₀.objs.size s.heap m)
   (N : News h₀ h₀.objs.size s.heap ((ll, W.listOf #[Value.int a ta, Value.int b tb, Value.int c tc] 0) :: rest))
   (done : ∀ h' tk m', ((∀ y, m' y = m y)) → Fr h₀ h₀.objs.size h' m' → News h₀ h₀.objs.size h' ((ll, W.listOf #[Value.int a ta, Value.int b tb, Value.int c tc] 0) :: rest) → Q .next { s with heap := h', toks := tk }) :
   wpAny (model PG w) (callerA.deeper (lawEnv h₀.objs.size fa cdv)) (execs ([colAt 4]) (lawEnv h₀.objs.size fa cdv)) Q E s := by
  w_on
  replace F := Fr_knows F [((Str.ofString "lights"), .ref ll), ((Str.ofString "spread"), .int Sp tS), ((Str.ofString "hue"), .float H u1)] (kn1 e_lights (kn1 e_spread (kn1 e_hue kn0)))
  dsimp only [know] at F
  dsimp only [lawEnv, PG, KG, VG, S] at *
  conv in (occs := *) lawScope => all_goals whnf
  conv in (colAt _) => whnf
  k_steps
  · refine go ?_
    refine ne_no (by rename Sp = 0 => e0; rw [e0] at c2; exact c2) ?_
    try dsimp only
    k_steps
    refine go ?_
    refine mul_6 ?_
    intro t7
    try dsimp only
    k_steps
    refine go ?_
    refine int_hue (by rfl) c3 ?_
    intro t8
    try dsimp only
    k_steps
    refine go ?_
    rename Fr _ _ _ _ => F7
    rename News _ _ _ _ => N7
    refine CallSpec.use (sixth_spec w ll a b c ta tb tc rest) (by assumption) F7 (by assumption) N7 (by assumption) rfl rfl ?_ ?_ ?_
    · ktr_room
    · ktr_units
    rintro v nw h' tk' ⟨⟨t9, rfl⟩, rfl⟩ F8 N8
    clear F7 N7
    rw [eq_of_beq c4]
    try dsimp only
    k_steps
    · exact absurd rfl (by assumption)
    rename Fr _ _ _ _ => F9
    rename News _ _ _ _ => N9
    exact done _ _ _ (fun y => know_if e_lights (know_if e_spread (know_if e_hue rfl))) F9 N9
  · refine go ?_
    refine mul_6 ?_
    intro t7
    try dsimp only
    k_steps
    refine go ?_
    refine int_hue (by rfl) c3 ?_
    intro t8
    try dsimp only
    k_steps
    refine go ?_
    rename Fr _ _ _ _ => F7
    rename News _ _ _ _ => N7
    refine CallSpec.use (sixth_spec w ll a b c ta tb tc rest) (by assumption) F7 (by assumption) N7 (by assumption) rfl rfl ?_ ?_ ?_
    · ktr_room
    · ktr_units
    rintro v nw h' tk' ⟨⟨t9, rfl⟩, rfl⟩ F8 N8
    clear F7 N7
    rw [eq_of_beq c4]
    try dsimp only
    k_steps
    · exact absurd rfl (by assumption)
    rename Fr _ _ _ _ => F9
    rename News _ _ _ _ => N9
    exact done _ _ _ (fun y => know_if e_lights (know_if e_spread (know_if e_hue rfl))) F9 N9
set_option maxRecDepth 100000 in
set_option maxHeartbeats 0 in
set_option pp.maxSteps 100000 in
theorem col_if2 {mean : ExcName → Option Value} {loose : List Str} {mg mb : Str → Option Value} (w : World) (h₀ : Heap) (fa : Addr) (cdv : Value) (m : Str → Option Value) (s : Shared) (Q : Flow → Shared → Prop) (E : Value → Shared → Prop)
   (KX : (KG w.params).In h₀) (T : Top VG loose mean mg mb h₀) (K0 : Below callerA h₀ [] h₀) (hE : PassesOwn (model PG w) (callerA.deeper (lawEnv h₀.objs.size fa cdv)) (lawEnv h₀.objs.size fa cdv) E)
   (M Sp : Int) (SS V : UInt64) (t5 tS u2 u3 : Tok) (rest : List (Addr × Obj)) (hM : M < 1000 ∧ 0 ≤ M) (hS : Sp < 1000 ∧ 0 ≤ Sp) (hpos : Sp ≠ 0 → M ≠ 0) (c5 : flEq V (qF M 4) = true) (c6 : flEq SS (if Sp = 0 then 0 else qF Sp M) = true)
    (e_most : m (Str.ofString "most") = some (.int M t5)) (e_spread : m (Str.ofString "spread") = some (.int Sp tS)) (e_share : m (Str.ofString "share") = some (.float SS u2)) (e_value : m (Str.ofString "value") = some (.float V u3))
   (F : Fr h₀ h₀.objs.size s.heap m)
   (N : News h₀ h₀.objs.size s.heap (rest))
   (done : ∀ h' tk m', ((∀ y, m' y = m y)) → Fr h₀ h₀.objs.size h' m' → News h₀ h₀.objs.size h' (rest) → Q .next { s with heap := h', toks := tk }) :
   wpAny (model PG w) (callerA.deeper (lawEnv h₀.objs.size fa cdv)) (execs ([colAt 5]) (lawEnv h₀.objs.size fa cdv)) Q E s := by
  w_on
  replace F := Fr_knows F [((Str.ofString "most"), .int M t5), ((Str.ofString "spread"), .int Sp tS), ((Str.ofString "share"), .float SS u2), ((Str.ofString "value"), .float V u3)] (kn1 e_most (kn1 e_spread (kn1 e_share (kn1 e_value kn0))))
  dsimp only [know] at F
  dsimp only [lawEnv, PG, KG, VG, S] at *
  conv in (occs := *) lawScope => all_goals whnf
  conv in (colAt _) => whnf
  k_steps
  refine go ?_
  refine div_q (by rfl) (by omega) (by decide) ?_
  intro t7
  try dsimp only
  k_steps
  refine go ?_
  refine ne_no c5 ?_
  try dsimp only
  k_steps
  · refine go ?_
    rename ¬ Sp = 0 => hS0
    refine div_q (by rfl) (by omega) (hpos hS0) ?_
    intro t8
    try dsimp only
    k_steps
    refine go ?_
    refine ne_no (by rw [if_neg hS0] at c6; exact c6) ?_
    try dsimp only
    k_steps
    rename Fr _ _ _ _ => F9
    rename News _ _ _ _ => N9
    exact done _ _ _ (fun y => know_if e_most (know_if e_spread (know_if e_share (know_if e_value rfl)))) F9 N9
  · refine go ?_
    rename Sp = 0 => hS0
    refine ne_no (by rw [if_pos hS0] at c6; exact c6) ?_
    try dsimp only
    k_steps
    rename Fr _ _ _ _ => F9
    rename News _ _ _ _ => N9
    exact done _ _ _ (fun y => know_if e_most (know_if e_spread (know_if e_share (know_if e_value rfl)))) F9 N9
end Mine
end
section
open PySem PySem.W PySem.Calls PyProof.Rows
namespace Mine
theorem fillS21c : (PySem.Challenge.rw_ty0055_01, Mine.hd.heap_1) = (PySem.Challenge.rw_ty0055_01, Mine.hd.heap_1) := by
  k_fill
  rfl

local macro_rules | `(tactic| walk_at "exec For Tuple List cons nil") => `(tactic| ((with_reducible show wpAny _ _ (exec (Stmt.For _ _ _ _ _) _) _ _ _); refine halt ?_))
theorem gen_tk {α : Type} {M : Model} {A : Around} {t : Sem α} {Q : α → Shared → Prop} {E : Value → Shared → Prop} {h : Heap} {g d o} {T : Nat} (H : ∀ T, wpAny M A t Q E ⟨h, g, d, T, o⟩) : wpAny M A t Q E ⟨h, g, d, T + 1, o⟩ := H _
theorem hide {α : Type} {M : Model} {A : Around} {t : Sem α} {Q : α → Shared → Prop} {E : Value → Shared → Prop} {s : Shared} (h : ∀ P : α → Shared → Prop, (∀ a s, Q a s → P a s) → wpAny M A t P E s) : wpAny M A t Q E s := h Q (fun _ _ h => h)
local macro_rules | `(tactic| walk_at "eval Constant int") => `(tactic| (with_reducible refine gen_tk (fun _ => ?_); (try dsimp only)))
noncomputable def colN : List Str := [Str.ofString "lights", Str.ofString "most", Str.ofString "spread", Str.ofString "hue", Str.ofString "share", Str.ofString "value"]
noncomputable def tri3 (x y z : Int) (a b c : Tok) : Obj := { cls := .type "tuple", data := .seq #[.int x a, .int y b, .int z c] }
set_option maxRecDepth 100000 in
set_option maxHeartbeats 0 in
set_option pp.maxSteps 100000 in
theorem col_turn {mean : ExcName → Option Value} {loose : List Str} {mg mb : Str → Option Value} (w : World) (h₀ : Heap) (fa : Addr) (cdv : Value) (m : Str → Option Value) (s : Shared) (Q : Flow → Shared → Prop) (E : Value → Shared → Prop)
   (KX : (KG w.params).In h₀) (T : Top VG loose mean mg mb h₀) (K0 : Below callerA h₀ [] h₀) (hE : PassesOwn (model PG w) (callerA.deeper (lawEnv h₀.objs.size fa cdv)) (lawEnv h₀.objs.size fa cdv) E)
   (dol : Addr) (dk : Nat) (d : F6 → Int) (td : F6 → Tok) (p q r : F6) (ui uj uk : Tok) (rest : List (Addr × Obj)) (hd5 : ∀ p, 0 ≤ d p ∧ d p < 5) (hc : colOk (d p) (d q) (d r) = true)
    (e_dots : m (Str.ofString "dots") = some (.ref dol)) (e_i : m (Str.ofString "i") = some (.int (p.val : Nat) ui)) (e_j : m (Str.ofString "j") = some (.int (q.val : Nat) uj)) (e_k : m (Str.ofString "k") = some (.int (r.val : Nat) uk))
   (F : Fr h₀ h₀.objs.size s.heap m)
   (N : News h₀ h₀.objs.size s.heap ((dol, W.listOf (drawnV d td).toArray dk) :: rest))
   (done : ∀ h' tk m', ((∀ y, y ∉ colN → m' y = m y)) → Fr h₀ h₀.objs.size h' m' → News h₀ h₀.objs.size h' ((dol, W.listOf (drawnV d td).toArray dk) :: rest) → Q .next { s with heap := h', toks := tk }) :
   wpAny (model PG w) (callerA.deeper (lawEnv h₀.objs.size fa cdv)) (execs ([colAt 0, colAt 1, colAt 2, colAt 3, colAt 4, colAt 5]) (lawEnv h₀.objs.size fa cdv)) Q E s := by
  refine execs_append (xs := [colAt 0, colAt 1, colAt 2, colAt 3]) (ys := [colAt 4, colAt 5]) (col_body w h₀ fa cdv m s _ E KX T K0 hE dol dk d td p q r ui uj uk rest hd5 hc e_dots e_i e_j e_k F N ?_)
  rintro h1 tk1 m1 ll a b c M K H SS V ta tb tc t5 tS u1 u2 u3 hM hK c2 c3 c4 c5 c6 e1 e2 e3 e4 e5 e6 hm1 F1 N1
  clear F N
  show wpAny _ _ _ _ _ _
  refine step_seq (col_if1 w h₀ fa cdv m1 _ _ E KX T K0 hE ll a b c (M - K) H ta tb tc tS u1 _ c2 c3 c4 e1 e3 e4 F1 N1 ?_)
  rintro h2 tk2 m2 hm2 F2 N2
  clear F1 N1
  show wpAny _ _ _ _ _ _
  refine col_if2 w h₀ fa cdv m2 _ _ E KX T K0 hE M (M - K) SS V t5 tS u2 u3 _ (by omega) (by omega) (by omega) c5 c6 ((hm2 _).trans e2) ((hm2 _).trans e3) ((hm2 _).trans e5) ((hm2 _).trans e6) F2 N2 ?_
  rintro h3 tk3 m3 hm3 F3 N3
  exact done _ _ _ (fun y hy => (hm3 y).trans ((hm2 y).trans (hm1 y hy))) F3 (News_sub N3 fun q hq => .tail _ hq)
set_option maxRecDepth 100000 in
set_option maxHeartbeats 0 in
set_option pp.maxSteps 100000 in
theorem colours {mean : ExcName → Option Value} {loose : List Str} {mg mb : Str → Option Value} (w : World) (h₀ : Heap) (fa : Addr) (cdv : Value) (m : Str → Option Value) (s : Shared) (Q : Flow → Shared → Prop) (E : Value → Shared → Prop)
   (KX : (KG w.params).In h₀) (T : Top VG loose mean mg mb h₀) (K0 : Below callerA h₀ [] h₀) (hE : PassesOwn (model PG w) (callerA.deeper (lawEnv h₀.objs.size fa cdv)) (lawEnv h₀.objs.size fa cdv) E)
   (dol : Addr) (dk : Nat) (d : F6 → Int) (td : F6 → Tok) (rest : List (Addr × Obj)) (hd5 : ∀ p, 0 ≤ d p ∧ d p < 5) (hc0 : colOk (d 0) (d 1) (d 3) = true) (hc1 : colOk (d 0) (d 2) (d 4) = true) (hc2 : colOk (d 1) (d 2) (d 5) = true) (hc3 : colOk (d 3) (d 4) (d 5) = true)
    (e_dots : m (Str.ofString "dots") = some (.ref dol))
   (F : Fr h₀ h₀.objs.size s.heap m)
   (N : News h₀ h₀.objs.size s.heap ((dol, W.listOf (drawnV d td).toArray dk) :: rest))
   (done : ∀ h' tk m', ((∀ y, y ∉ Str.ofString "i" :: Str.ofString "j" :: Str.ofString "k" :: colN → m' y = m y)) → Fr h₀ h₀.objs.size h' m' → News h₀ h₀.objs.size h' ((dol, W.listOf (drawnV d td).toArray dk) :: rest) → Q .next { s with heap := h', toks := tk }) :
   wpAny (model PG w) (callerA.deeper (lawEnv h₀.objs.size fa cdv)) (execs ([lawAt 21]) (lawEnv h₀.objs.size fa cdv)) Q E s := by
  w_on
  replace F := Fr_knows F [((Str.ofString "dots"), .ref dol)] (kn1 e_dots kn0)
  dsimp only [know] at F
  dsimp only [lawEnv, PG, KG, VG, S] at *
  conv in (occs := *) lawScope => all_goals whnf
  conv in (lawAt _) => whnf
  k_steps
  refine go ?_
  refine @For_list _ _ _ _ _ _ _ _ _ _ _ _ _ F (by rfl) (by intro _; with_unfolding_all rfl) hE ?_
  k_steps
  rename Fr _ _ _ _ => F2
  rename News _ _ _ _ => N2
  rename_i a0 a1 D0 hA0 l0 a2 a3 a4 D1 hA1 l1 a5 a6 a7 D2 hA2 l2 a8 a9 a10 D3 hA3 l3 ll hA4 l4
  obtain ⟨x0, x1, x2, x3, x4, x5, x6, x7, x8, x9, x10, x11, N2⟩ : ∃ x0 x1 x2 x3 x4 x5 x6 x7 x8 x9 x10 x11, News h₀ h₀.objs.size hA4 ((ll, W.listOf [Value.ref D0, Value.ref D1, Value.ref D2, Value.ref D3].toArray 0) :: (D3, tri3 3 4 5 x9 x10 x11) :: (D2, tri3 1 2 5 x6 x7 x8) :: (D1, tri3 0 2 4 x3 x4 x5) :: (D0, tri3 0 1 3 x0 x1 x2) :: (dol, W.listOf (drawnV d td).toArray dk) :: rest) := ⟨_, _, _, _, _, _, _, _, _, _, _, _, N2⟩
  refine ListLoop.mk ll [Value.ref D0, Value.ref D1, Value.ref D2, Value.ref D3] 0 _ _ (fun i m₁ nw => nw = (ll, W.listOf [Value.ref D0, Value.ref D1, Value.ref D2, Value.ref D3].toArray 0) :: (D3, tri3 3 4 5 x9 x10 x11) :: (D2, tri3 1 2 5 x6 x7 x8) :: (D1, tri3 0 2 4 x3 x4 x5) :: (D0, tri3 0 1 3 x0 x1 x2) :: (dol, W.listOf (drawnV d td).toArray dk) :: rest ∧ ∀ y, y ∉ Str.ofString "i" :: Str.ofString "j" :: Str.ofString "k" :: colN → m₁ y = m y) rfl (.head _) (fun _ _ _ h => by rw [h.1]; exact .head _) F2 N2 ⟨rfl, fun y _ => know_if e_dots rfl⟩ ?_ ?_
  · clear F2 N2 l0 l1 l2 l3 l4
    rintro i v m₁ nw h tk I o hv ⟨rfl, hm⟩ hI F N
    have ed : m₁ (Str.ofString "dots") = some (.ref dol) := (hm _ (by decide)).trans e_dots
    change Fr h₀ h₀.objs.size h m₁ at F
    change News h₀ h₀.objs.size h _ at N
    match i, hv with
    | 0, hv =>
      cases hv
      have N3 := News_sub N (news' := (D0, tri3 0 1 3 x0 x1 x2) :: (I, o) :: (ll, W.listOf [Value.ref D0, Value.ref D1, Value.ref D2, Value.ref D3].toArray 0) :: (D3, tri3 3 4 5 x9 x10 x11) :: (D2, tri3 1 2 5 x6 x7 x8) :: (D1, tri3 0 2 4 x3 x4 x5) :: (D0, tri3 0 1 3 x0 x1 x2) :: (dol, W.listOf (drawnV d td).toArray dk) :: rest) (by
        (repeat with_reducible refine List.forall_mem_cons.mpr ⟨(by (repeat first | with_reducible assumption | with_reducible exact List.mem_cons_self | with_reducible refine List.mem_cons_of_mem _ ?_ | with_reducible exact List.mem_append_left _ (by assumption) | with_reducible refine List.mem_append_right _ ?_)), ?_⟩); first | exact fun _ hq => absurd hq List.not_mem_nil | (intro q hq; (repeat first | with_reducible assumption | with_reducible exact List.mem_cons_self | with_reducible refine List.mem_cons_of_mem _ ?_ | with_reducible exact List.mem_append_left _ (by assumption) | with_reducible refine List.mem_append_right _ ?_); done) | (intro q hq; rcases List.mem_append.mp hq with hq | hq <;> (repeat first | with_reducible assumption | with_reducible exact List.mem_cons_self | with_reducible refine List.mem_cons_of_mem _ ?_ | with_reducible exact List.mem_append_left _ (by assumption) | with_reducible refine List.mem_append_right _ ?_)))
      clear N
      refine hide fun P hP => ?_
      k_steps
      refine hP _ _ ?_
      rename Fr _ _ _ _ => F5
      rename News _ _ _ _ => N5
      have N6 := News_sub N5 (news' := (dol, W.listOf (drawnV d td).toArray dk) :: (I, o) :: (ll, W.listOf [Value.ref D0, Value.ref D1, Value.ref D2, Value.ref D3].toArray 0) :: (D3, tri3 3 4 5 x9 x10 x11) :: (D2, tri3 1 2 5 x6 x7 x8) :: (D1, tri3 0 2 4 x3 x4 x5) :: (D0, tri3 0 1 3 x0 x1 x2) :: (dol, W.listOf (drawnV d td).toArray dk) :: rest) (by
        (repeat with_reducible refine List.forall_mem_cons.mpr ⟨(by (repeat first | with_reducible assumption | with_reducible exact List.mem_cons_self | with_reducible refine List.mem_cons_of_mem _ ?_ | with_reducible exact List.mem_append_left _ (by assumption) | with_reducible refine List.mem_append_right _ ?_)), ?_⟩); first | exact fun _ hq => absurd hq List.not_mem_nil | (intro q hq; (repeat first | with_reducible assumption | with_reducible exact List.mem_cons_self | with_reducible refine List.mem_cons_of_mem _ ?_ | with_reducible exact List.mem_append_left _ (by assumption) | with_reducible refine List.mem_append_right _ ?_); done) | (intro q hq; rcases List.mem_append.mp hq with hq | hq <;> (repeat first | with_reducible assumption | with_reducible exact List.mem_cons_self | with_reducible refine List.mem_cons_of_mem _ ?_ | with_reducible exact List.mem_append_left _ (by assumption) | with_reducible refine List.mem_append_right _ ?_)))
      clear N5
      refine col_turn w h₀ fa cdv _ _ _ E KX T K0 hE dol dk d td 0 1 3 x0 x1 x2 ((I, o) :: (ll, W.listOf [Value.ref D0, Value.ref D1, Value.ref D2, Value.ref D3].toArray 0) :: (D3, tri3 3 4 5 x9 x10 x11) :: (D2, tri3 1 2 5 x6 x7 x8) :: (D1, tri3 0 2 4 x3 x4 x5) :: (D0, tri3 0 1 3 x0 x1 x2) :: (dol, W.listOf (drawnV d td).toArray dk) :: rest) hd5 hc0 ?_ rfl rfl rfl F5 N6 ?_
      · exact ed
      rintro h6 tk6 m6 hm6 F6 N6
      refine TurnU.intro F6 (nw := (ll, W.listOf [Value.ref D0, Value.ref D1, Value.ref D2, Value.ref D3].toArray 0) :: (D3, tri3 3 4 5 x9 x10 x11) :: (D2, tri3 1 2 5 x6 x7 x8) :: (D1, tri3 0 2 4 x3 x4 x5) :: (D0, tri3 0 1 3 x0 x1 x2) :: (dol, W.listOf (drawnV d td).toArray dk) :: rest) (News_sub N6 ?_) hI ⟨rfl, fun y hy => ?_⟩
      · (repeat with_reducible refine List.forall_mem_cons.mpr ⟨(by (repeat first | with_reducible assumption | with_reducible exact List.mem_cons_self | with_reducible refine List.mem_cons_of_mem _ ?_ | with_reducible exact List.mem_append_left _ (by assumption) | with_reducible refine List.mem_append_right _ ?_)), ?_⟩); first | exact fun _ hq => absurd hq List.not_mem_nil | (intro q hq; (repeat first | with_reducible assumption | with_reducible exact List.mem_cons_self | with_reducible refine List.mem_cons_of_mem _ ?_ | with_reducible exact List.mem_append_left _ (by assumption) | with_reducible refine List.mem_append_right _ ?_); done) | (intro q hq; rcases List.mem_append.mp hq with hq | hq <;> (repeat first | with_reducible assumption | with_reducible exact List.mem_cons_self | with_reducible refine List.mem_cons_of_mem _ ?_ | with_reducible exact List.mem_append_left _ (by assumption) | with_reducible refine List.mem_append_right _ ?_))
      · simp only [List.mem_cons, not_or] at hy
        rw [hm6 y hy.2.2.2]
        show (if _ then _ else if _ then _ else if _ then _ else _) = _
        rw [if_neg hy.2.2.1, if_neg hy.2.1, if_neg hy.1]
        exact hm y (by simp only [List.mem_cons, not_or]; exact hy)
    | 1, hv =>
      cases hv
      have N3 := News_sub N (news' := (D1, tri3 0 2 4 x3 x4 x5) :: (I, o) :: (ll, W.listOf [Value.ref D0, Value.ref D1, Value.ref D2, Value.ref D3].toArray 0) :: (D3, tri3 3 4 5 x9 x10 x11) :: (D2, tri3 1 2 5 x6 x7 x8) :: (D1, tri3 0 2 4 x3 x4 x5) :: (D0, tri3 0 1 3 x0 x1 x2) :: (dol, W.listOf (drawnV d td).toArray dk) :: rest) (by
        (repeat with_reducible refine List.forall_mem_cons.mpr ⟨(by (repeat first | with_reducible assumption | with_reducible exact List.mem_cons_self | with_reducible refine List.mem_cons_of_mem _ ?_ | with_reducible exact List.mem_append_left _ (by assumption) | with_reducible refine List.mem_append_right _ ?_)), ?_⟩); first | exact fun _ hq => absurd hq List.not_mem_nil | (intro q hq; (repeat first | with_reducible assumption | with_reducible exact List.mem_cons_self | with_reducible refine List.mem_cons_of_mem _ ?_ | with_reducible exact List.mem_append_left _ (by assumption) | with_reducible refine List.mem_append_right _ ?_); done) | (intro q hq; rcases List.mem_append.mp hq with hq | hq <;> (repeat first | with_reducible assumption | with_reducible exact List.mem_cons_self | with_reducible refine List.mem_cons_of_mem _ ?_ | with_reducible exact List.mem_append_left _ (by assumption) | with_reducible refine List.mem_append_right _ ?_)))
      clear N
      refine hide fun P hP => ?_
      k_steps
      refine hP _ _ ?_
      rename Fr _ _ _ _ => F5
      rename News _ _ _ _ => N5
      have N6 := News_sub N5 (news' := (dol, W.listOf (drawnV d td).toArray dk) :: (I, o) :: (ll, W.listOf [Value.ref D0, Value.ref D1, Value.ref D2, Value.ref D3].toArray 0) :: (D3, tri3 3 4 5 x9 x10 x11) :: (D2, tri3 1 2 5 x6 x7 x8) :: (D1, tri3 0 2 4 x3 x4 x5) :: (D0, tri3 0 1 3 x0 x1 x2) :: (dol, W.listOf (drawnV d td).toArray dk) :: rest) (by
        (repeat with_reducible refine List.forall_mem_cons.mpr ⟨(by (repeat first | with_reducible assumption | with_reducible exact List.mem_cons_self | with_reducible refine List.mem_cons_of_mem _ ?_ | with_reducible exact List.mem_append_left _ (by assumption) | with_reducible refine List.mem_append_right _ ?_)), ?_⟩); first | exact fun _ hq => absurd hq List.not_mem_nil | (intro q hq; (repeat first | with_reducible assumption | with_reducible exact List.mem_cons_self | with_reducible refine List.mem_cons_of_mem _ ?_ | with_reducible exact List.mem_append_left _ (by assumption) | with_reducible refine List.mem_append_right _ ?_); done) | (intro q hq; rcases List.mem_append.mp hq with hq | hq <;> (repeat first | with_reducible assumption | with_reducible exact List.mem_cons_self | with_reducible refine List.mem_cons_of_mem _ ?_ | with_reducible exact List.mem_append_left _ (by assumption) | with_reducible refine List.mem_append_right _ ?_)))
      clear N5
      refine col_turn w h₀ fa cdv _ _ _ E KX T K0 hE dol dk d td 0 2 4 x3 x4 x5 ((I, o) :: (ll, W.listOf [Value.ref D0, Value.ref D1, Value.ref D2, Value.ref D3].toArray 0) :: (D3, tri3 3 4 5 x9 x10 x11) :: (D2, tri3 1 2 5 x6 x7 x8) :: (D1, tri3 0 2 4 x3 x4 x5) :: (D0, tri3 0 1 3 x0 x1 x2) :: (dol, W.listOf (drawnV d td).toArray dk) :: rest) hd5 hc1 ?_ rfl rfl rfl F5 N6 ?_
      · exact ed
      rintro h6 tk6 m6 hm6 F6 N6
      refine TurnU.intro F6 (nw := (ll, W.listOf [Value.ref D0, Value.ref D1, Value.ref D2, Value.ref D3].toArray 0) :: (D3, tri3 3 4 5 x9 x10 x11) :: (D2, tri3 1 2 5 x6 x7 x8) :: (D1, tri3 0 2 4 x3 x4 x5) :: (D0, tri3 0 1 3 x0 x1 x2) :: (dol, W.listOf (drawnV d td).toArray dk) :: rest) (News_sub N6 ?_) hI ⟨rfl, fun y hy => ?_⟩
      · (repeat with_reducible refine List.forall_mem_cons.mpr ⟨(by (repeat first | with_reducible assumption | with_reducible exact List.mem_cons_self | with_reducible refine List.mem_cons_of_mem _ ?_ | with_reducible exact List.mem_append_left _ (by assumption) | with_reducible refine List.mem_append_right _ ?_)), ?_⟩); first | exact fun _ hq => absurd hq List.not_mem_nil | (intro q hq; (repeat first | with_reducible assumption | with_reducible exact List.mem_cons_self | with_reducible refine List.mem_cons_of_mem _ ?_ | with_reducible exact List.mem_append_left _ (by assumption) | with_reducible refine List.mem_append_right _ ?_); done) | (intro q hq; rcases List.mem_append.mp hq with hq | hq <;> (repeat first | with_reducible assumption | with_reducible exact List.mem_cons_self | with_reducible refine List.mem_cons_of_mem _ ?_ | with_reducible exact List.mem_append_left _ (by assumption) | with_reducible refine List.mem_append_right _ ?_))
      · simp only [List.mem_cons, not_or] at hy
        rw [hm6 y hy.2.2.2]
        show (if _ then _ else if _ then _ else if _ then _ else _) = _
        rw [if_neg hy.2.2.1, if_neg hy.2.1, if_neg hy.1]
        exact hm y (by simp only [List.mem_cons, not_or]; exact hy)
    | 2, hv =>
      cases hv
      have N3 := News_sub N (news' := (D2, tri3 1 2 5 x6 x7 x8) :: (I, o) :: (ll, W.listOf [Value.ref D0, Value.ref D1, Value.ref D2, Value.ref D3].toArray 0) :: (D3, tri3 3 4 5 x9 x10 x11) :: (D2, tri3 1 2 5 x6 x7 x8) :: (D1, tri3 0 2 4 x3 x4 x5) :: (D0, tri3 0 1 3 x0 x1 x2) :: (dol, W.listOf (drawnV d td).toArray dk) :: rest) (by
        (repeat with_reducible refine List.forall_mem_cons.mpr ⟨(by (repeat first | with_reducible assumption | with_reducible exact List.mem_cons_self | with_reducible refine List.mem_cons_of_mem _ ?_ | with_reducible exact List.mem_append_left _ (by assumption) | with_reducible refine List.mem_append_right _ ?_)), ?_⟩); first | exact fun _ hq => absurd hq List.not_mem_nil | (intro q hq; (repeat first | with_reducible assumption | with_reducible exact List.mem_cons_self | with_reducible refine List.mem_cons_of_mem _ ?_ | with_reducible exact List.mem_append_left _ (by assumption) | with_reducible refine List.mem_append_right _ ?_); done) | (intro q hq; rcases List.mem_append.mp hq with hq | hq <;> (repeat first | with_reducible assumption | with_reducible exact List.mem_cons_self | with_reducible refine List.mem_cons_of_mem _ ?_ | with_reducible exact List.mem_append_left _ (by assumption) | with_reducible refine List.mem_append_right _ ?_)))
      clear N
      refine hide fun P hP => ?_
      k_steps
      refine hP _ _ ?_
      rename Fr _ _ _ _ => F5
      rename News _ _ _ _ => N5
      have N6 := News_sub N5 (news' := (dol, W.listOf (drawnV d td).toArray dk) :: (I, o) :: (ll, W.listOf [Value.ref D0, Value.ref D1, Value.ref D2, Value.ref D3].toArray 0) :: (D3, tri3 3 4 5 x9 x10 x11) :: (D2, tri3 1 2 5 x6 x7 x8) :: (D1, tri3 0 2 4 x3 x4 x5) :: (D0, tri3 0 1 3 x0 x1 x2) :: (dol, W.listOf (drawnV d td).toArray dk) :: rest) (by
        (repeat with_reducible refine List.forall_mem_cons.mpr ⟨(by (repeat first | with_reducible assumption | with_reducible exact List.mem_cons_self | with_reducible refine List.mem_cons_of_mem _ ?_ | with_reducible exact List.mem_append_left _ (by assumption) | with_reducible refine List.mem_append_right _ ?_)), ?_⟩); first | exact fun _ hq => absurd hq List.not_mem_nil | (intro q hq; (repeat first | with_reducible assumption | with_reducible exact List.mem_cons_self | with_reducible refine List.mem_cons_of_mem _ ?_ | with_reducible exact List.mem_append_left _ (by assumption) | with_reducible refine List.mem_append_right _ ?_); done) | (intro q hq; rcases List.mem_append.mp hq with hq | hq <;> (repeat first | with_reducible assumption | with_reducible exact List.mem_cons_self | with_reducible refine List.mem_cons_of_mem _ ?_ | with_reducible exact List.mem_append_left _ (by assumption) | with_reducible refine List.mem_append_right _ ?_)))
      clear N5
      refine col_turn w h₀ fa cdv _ _ _ E KX T K0 hE dol dk d td 1 2 5 x6 x7 x8 ((I, o) :: (ll, W.listOf [Value.ref D0, Value.ref D1, Value.ref D2, Value.ref D3].toArray 0) :: (D3, tri3 3 4 5 x9 x10 x11) :: (D2, tri3 1 2 5 x6 x7 x8) :: (D1, tri3 0 2 4 x3 x4 x5) :: (D0, tri3 0 1 3 x0 x1 x2) :: (dol, W.listOf (drawnV d td).toArray dk) :: rest) hd5 hc2 ?_ rfl rfl rfl F5 N6 ?_
      · exact ed
      rintro h6 tk6 m6 hm6 F6 N6
      refine TurnU.intro F6 (nw := (ll, W.listOf [Value.ref D0, Value.ref D1, Value.ref D2, Value.ref D3].toArray 0) :: (D3, tri3 3 4 5 x9 x10 x11) :: (D2, tri3 1 2 5 x6 x7 x8) :: (D1, tri3 0 2 4 x3 x4 x5) :: (D0, tri3 0 1 3 x0 x1 x2) :: (dol, W.listOf (drawnV d td).toArray dk) :: rest) (News_sub N6 ?_) hI ⟨rfl, fun y hy => ?_⟩
      · (repeat with_reducible refine List.forall_mem_cons.mpr ⟨(by (repeat first | with_reducible assumption | with_reducible exact List.mem_cons_self | with_reducible refine List.mem_cons_of_mem _ ?_ | with_reducible exact List.mem_append_left _ (by assumption) | with_reducible refine List.mem_append_right _ ?_)), ?_⟩); first | exact fun _ hq => absurd hq List.not_mem_nil | (intro q hq; (repeat first | with_reducible assumption | with_reducible exact List.mem_cons_self | with_reducible refine List.mem_cons_of_mem _ ?_ | with_reducible exact List.mem_append_left _ (by assumption) | with_reducible refine List.mem_append_right _ ?_); done) | (intro q hq; rcases List.mem_append.mp hq with hq | hq <;> (repeat first | with_reducible assumption | with_reducible exact List.mem_cons_self | with_reducible refine List.mem_cons_of_mem _ ?_ | with_reducible exact List.mem_append_left _ (by assumption) | with_reducible refine List.mem_append_right _ ?_))
      · simp only [List.mem_cons, not_or] at hy
        rw [hm6 y hy.2.2.2]
        show (if _ then _ else if _ then _ else if _ then _ else _) = _
        rw [if_neg hy.2.2.1, if_neg hy.2.1, if_neg hy.1]
        exact hm y (by simp only [List.mem_cons, not_or]; exact hy)
    | 3, hv =>
      cases hv
      have N3 := News_sub N (news' := (D3, tri3 3 4 5 x9 x10 x11) :: (I, o) :: (ll, W.listOf [Value.ref D0, Value.ref D1, Value.ref D2, Value.ref D3].toArray 0) :: (D3, tri3 3 4 5 x9 x10 x11) :: (D2, tri3 1 2 5 x6 x7 x8) :: (D1, tri3 0 2 4 x3 x4 x5) :: (D0, tri3 0 1 3 x0 x1 x2) :: (dol, W.listOf (drawnV d td).toArray dk) :: rest) (by
        (repeat with_reducible refine List.forall_mem_cons.mpr ⟨(by (repeat first | with_reducible assumption | with_reducible exact List.mem_cons_self | with_reducible refine List.mem_cons_of_mem _ ?_ | with_reducible exact List.mem_append_left _ (by assumption) | with_reducible refine List.mem_append_right _ ?_)), ?_⟩); first | exact fun _ hq => absurd hq List.not_mem_nil | (intro q hq; (repeat first | with_reducible assumption | with_reducible exact List.mem_cons_self | with_reducible refine List.mem_cons_of_mem _ ?_ | with_reducible exact List.mem_append_left _ (by assumption) | with_reducible refine List.mem_append_right _ ?_); done) | (intro q hq; rcases List.mem_append.mp hq with hq | hq <;> (repeat first | with_reducible assumption | with_reducible exact List.mem_cons_self | with_reducible refine List.mem_cons_of_mem _ ?_ | with_reducible exact List.mem_append_left _ (by assumption) | with_reducible refine List.mem_append_right _ ?_)))
      clear N
      refine hide fun P hP => ?_
      k_steps
      refine hP _ _ ?_
      rename Fr _ _ _ _ => F5
      rename News _ _ _ _ => N5
      have N6 := News_sub N5 (news' := (dol, W.listOf (drawnV d td).toArray dk) :: (I, o) :: (ll, W.listOf [Value.ref D0, Value.ref D1, Value.ref D2, Value.ref D3].toArray 0) :: (D3, tri3 3 4 5 x9 x10 x11) :: (D2, tri3 1 2 5 x6 x7 x8) :: (D1, tri3 0 2 4 x3 x4 x5) :: (D0, tri3 0 1 3 x0 x1 x2) :: (dol, W.listOf (drawnV d td).toArray dk) :: rest) (by
        (repeat with_reducible refine List.forall_mem_cons.mpr ⟨(by (repeat first | with_reducible assumption | with_reducible exact List.mem_cons_self | with_reducible refine List.mem_cons_of_mem _ ?_ | with_reducible exact List.mem_append_left _ (by assumption) | with_reducible refine List.mem_append_right _ ?_)), ?_⟩); first | exact fun _ hq => absurd hq List.not_mem_nil | (intro q hq; (repeat first | with_reducible assumption | with_reducible exact List.mem_cons_self | with_reducible refine List.mem_cons_of_mem _ ?_ | with_reducible exact List.mem_append_left _ (by assumption) | with_reducible refine List.mem_append_right _ ?_); done) | (intro q hq; rcases List.mem_append.mp hq with hq | hq <;> (repeat first | with_reducible assumption | with_reducible exact List.mem_cons_self | with_reducible refine List.mem_cons_of_mem _ ?_ | with_reducible exact List.mem_append_left _ (by assumption) | with_reducible refine List.mem_append_right _ ?_)))
      clear N5
      refine col_turn w h₀ fa cdv _ _ _ E KX T K0 hE dol dk d td 3 4 5 x9 x10 x11 ((I, o) :: (ll, W.listOf [Value.ref D0, Value.ref D1, Value.ref D2, Value.ref D3].toArray 0) :: (D3, tri3 3 4 5 x9 x10 x11) :: (D2, tri3 1 2 5 x6 x7 x8) :: (D1, tri3 0 2 4 x3 x4 x5) :: (D0, tri3 0 1 3 x0 x1 x2) :: (dol, W.listOf (drawnV d td).toArray dk) :: rest) hd5 hc3 ?_ rfl rfl rfl F5 N6 ?_
      · exact ed
      rintro h6 tk6 m6 hm6 F6 N6
      refine TurnU.intro F6 (nw := (ll, W.listOf [Value.ref D0, Value.ref D1, Value.ref D2, Value.ref D3].toArray 0) :: (D3, tri3 3 4 5 x9 x10 x11) :: (D2, tri3 1 2 5 x6 x7 x8) :: (D1, tri3 0 2 4 x3 x4 x5) :: (D0, tri3 0 1 3 x0 x1 x2) :: (dol, W.listOf (drawnV d td).toArray dk) :: rest) (News_sub N6 ?_) hI ⟨rfl, fun y hy => ?_⟩
      · (repeat with_reducible refine List.forall_mem_cons.mpr ⟨(by (repeat first | with_reducible assumption | with_reducible exact List.mem_cons_self | with_reducible refine List.mem_cons_of_mem _ ?_ | with_reducible exact List.mem_append_left _ (by assumption) | with_reducible refine List.mem_append_right _ ?_)), ?_⟩); first | exact fun _ hq => absurd hq List.not_mem_nil | (intro q hq; (repeat first | with_reducible assumption | with_reducible exact List.mem_cons_self | with_reducible refine List.mem_cons_of_mem _ ?_ | with_reducible exact List.mem_append_left _ (by assumption) | with_reducible refine List.mem_append_right _ ?_); done) | (intro q hq; rcases List.mem_append.mp hq with hq | hq <;> (repeat first | with_reducible assumption | with_reducible exact List.mem_cons_self | with_reducible refine List.mem_cons_of_mem _ ?_ | with_reducible exact List.mem_append_left _ (by assumption) | with_reducible refine List.mem_append_right _ ?_))
      · simp only [List.mem_cons, not_or] at hy
        rw [hm6 y hy.2.2.2]
        show (if _ then _ else if _ then _ else if _ then _ else _) = _
        rw [if_neg hy.2.2.1, if_neg hy.2.1, if_neg hy.1]
        exact hm y (by simp only [List.mem_cons, not_or]; exact hy)
    | i + 4, hv => exact absurd hv (by simp)
  · rintro h' tk m' nw F4 N4 ⟨rfl, hm⟩
    k_steps
    exact done _ _ _ hm F4 (News_sub N4 fun q hq => .tail _ (.tail _ (.tail _ (.tail _ (.tail _ hq)))))
end Mine
end
section
open PySem PySem.W PySem.Calls PyProof.Rows
namespace Mine
theorem fillS22 : (PySem.Challenge.rw_ty0055_01, Mine.hd.heap_1) = (PySem.Challenge.rw_ty0055_01, Mine.hd.heap_1) := by
  k_fill
  rfl
local macro_rules | `(tactic| walk_at "call ref") => `(tactic| ((with_reducible show wpAny _ _ (call (Value.ref 89) _ _) _ _ _); refine halt ?_))

local macro_rules | `(tactic| walk_at "call builtin:max") => `(tactic| ((with_reducible show wpAny _ _ (call _ [Value.ref _]) _ _ _); refine halt ?_))
local macro_rules | `(tactic| walk_at "call builtin:min") => `(tactic| ((with_reducible show wpAny _ _ (call _ [Value.ref _]) _ _ _); refine halt ?_))
local macro_rules | `(tactic| walk_at "binaryOp Div int int") => `(tactic| (refine halt ?_))
set_option maxRecDepth 100000 in
set_option maxHeartbeats 0 in
set_option pp.maxSteps 100000 in
theorem sums0_step {mean : ExcName → Option Value} {loose : List Str} {mg mb : Str → Option Value} (w : World) (h₀ : Heap) (fa : Addr) (cdv : Value) (m : Str → Option Value) (s : Shared) (Q : Flow → Shared → Prop) (E : Value → Shared → Prop)
   (KX : (KG w.params).In h₀) (T : Top VG loose mean mg mb h₀) (K0 : Below callerA h₀ [] h₀) (hE : PassesOwn (model PG w) (callerA.deeper (lawEnv h₀.objs.size fa cdv)) (lawEnv h₀.objs.size fa cdv) E)
   (dol : Addr) (dk : Nat) (d : F6 → Int) (td : F6 → Tok) (rest : List (Addr × Obj)) (hd5 : ∀ p, 0 ≤ d p ∧ d p < 5)
    (e_dots : m (Str.ofString "dots") = some (.ref dol))
   (F : Fr h₀ h₀.objs.size s.heap m)
   (N : News h₀ h₀.objs.size s.heap ((dol, W.listOf (drawnV d td).toArray dk) :: rest))
   (done : ∀ h' tk m' ll ta tb tc, (m' (Str.ofString "lights") = some (.ref ll)) → Fr h₀ h₀.objs.size h' m' → News h₀ h₀.objs.size h' ((ll, W.listOf #[Value.int (d 0 + d 5) ta, Value.int (d 1 + d 4) tb, Value.int (d 2 + d 3) tc] 0) :: (dol, W.listOf (drawnV d td).toArray dk) :: rest) → Q .next { s with heap := h', toks := tk }) :
   wpAny (model PG w) (callerA.deeper (lawEnv h₀.objs.size fa cdv)) (execs ([lawAt 22]) (lawEnv h₀.objs.size fa cdv)) Q E s := by
  w_on
  replace F := Fr_knows F [((Str.ofString "dots"), .ref dol)] (kn1 e_dots kn0)
  dsimp only [know] at F
  dsimp only [lawEnv, PG, KG, VG, S] at *
  conv in (occs := *) lawScope => all_goals whnf
  conv in (lawAt _) => whnf
  have N0 : News h₀ h₀.objs.size s.heap ((dol, W.listOf #[Value.int (d 0) (td 0), Value.int (d 1) (td 1), Value.int (d 2) (td 2), Value.int (d 3) (td 3), Value.int (d 4) (td 4), Value.int (d 5) (td 5)] dk) :: rest) := N
  clear N
  have hp0 := hd5 0
  have hp1 := hd5 1
  have hp2 := hd5 2
  have hp3 := hd5 3
  have hp4 := hd5 4
  have hp5 := hd5 5
  k_steps
  rename Fr _ _ _ _ => F2
  rename News _ _ _ _ => N2
  rename_i y1 y2 y3 y4 y5 y6 ll hA l1 hB
  exact done _ _ _ ll _ _ _ rfl F2 N2
set_option maxRecDepth 100000 in
set_option maxHeartbeats 0 in
set_option pp.maxSteps 100000 in
theorem sums_step {mean : ExcName → Option Value} {loose : List Str} {mg mb : Str → Option Value} (w : World) (h₀ : Heap) (fa : Addr) (cdv : Value) (m : Str → Option Value) (s : Shared) (Q : Flow → Shared → Prop) (E : Value → Shared → Prop)
   (KX : (KG w.params).In h₀) (T : Top VG loose mean mg mb h₀) (K0 : Below callerA h₀ [] h₀) (hE : PassesOwn (model PG w) (callerA.deeper (lawEnv h₀.objs.size fa cdv)) (lawEnv h₀.objs.size fa cdv) E)
   (ll : Addr) (a b c : Int) (ta tb tc : Tok) (rest : List (Addr × Obj)) (ha : 0 ≤ a ∧ a ≤ 8) (hb : 0 ≤ b ∧ b ≤ 8) (hcc : 0 ≤ c ∧ c ≤ 8) (hc : hlsOkI a b c = true)
    (e_lights : m (Str.ofString "lights") = some (.ref ll))
   (F : Fr h₀ h₀.objs.size s.heap m)
   (N : News h₀ h₀.objs.size s.heap ((ll, W.listOf #[Value.int a ta, Value.int b tb, Value.int c tc] 0) :: rest))
   (done : ∀ h' tk m' M K H SS V tb' tS u1 u2 u3, ((M ≤ 8 ∧ 0 ≤ M)) → ((K ≤ 8 ∧ 0 ≤ K ∧ K ≤ M)) → ((!M - K == 0 || flEq H 0) = true) → (Float64.isFinite (hueI H) = true) → ((Flt.toInt Float64.truncOf (hueI H) == sixthF a b c) = true) → (flEq V (qF (M + K) 16) = true) → (flEq SS (if M - K = 0 then 0 else qF (M - K) (min (M + K) (16 - (M + K)))) = true) → (m' (Str.ofString "lights") = some (.ref ll)) → (m' (Str.ofString "both") = some (.int (M + K) tb')) → (m' (Str.ofString "spread") = some (.int (M - K) tS)) → (m' (Str.ofString "hue") = some (.float H u1)) → (m' (Str.ofString "middle") = some (.float V u2)) → (m' (Str.ofString "share") = some (.float SS u3)) → Fr h₀ h₀.objs.size h' m' → News h₀ h₀.objs.size h' ((ll, W.listOf #[Value.int a ta, Value.int b tb, Value.int c tc] 0) :: rest) → Q .next { s with heap := h', toks := tk }) :
   wpAny (model PG w) (callerA.deeper (lawEnv h₀.objs.size fa cdv)) (execs ([lawAt 23, lawAt 24, lawAt 25]) (lawEnv h₀.objs.size fa cdv)) Q E s := by
  w_on
  replace F := Fr_knows F [((Str.ofString "lights"), .ref ll)] (kn1 e_lights kn0)
  dsimp only [know] at F
  dsimp only [lawEnv, PG, KG, VG, S] at *
  conv in (occs := *) lawScope => all_goals whnf
  conv in (occs := *) (lawAt _) => all_goals whnf
  have N3 := N
  clear N
  have hi : True → IntsAre [Value.int a ta, Value.int b tb, Value.int c tc] [a, b, c] := fun _ => .cons _ _ (.cons _ _ (.cons _ _ .nil))
  k_steps
  refine go ?_
  rename Fr _ _ _ _ => F2
  rename News _ _ _ _ => N2
  refine max_list_N (s := ⟨_, _, _, _, _⟩) (by rfl) F2 N2 (News_isList N2 (.head _)) (hi trivial) (Nat.succ_pos _) ?_
  intro h5 M5 t5 tk5 F5 N5 hM1 hM2
  have hM := mx_of hM1 hM2
  subst hM
  clear F2 N2 hM1 hM2
  try dsimp only
  k_steps
  refine go ?_
  rename Fr _ _ _ _ => F2
  rename News _ _ _ _ => N2
  refine min_list_N (s := ⟨_, _, _, _, _⟩) (by rfl) F2 N2 (News_isList N2 (.head _)) (hi trivial) (Nat.succ_pos _) ?_
  intro h5 M5 t5 tk5 F5 N5 hM1 hM2
  have hM := mn_of hM1 hM2
  subst hM
  clear F2 N2 hM1 hM2
  try dsimp only
  k_steps
  refine go ?_
  rename Fr _ _ _ _ => F2
  rename News _ _ _ _ => N2
  refine max_list_N (s := ⟨_, _, _, _, _⟩) (by rfl) F2 N2 (News_isList N2 (.head _)) (hi trivial) (Nat.succ_pos _) ?_
  intro h5 M5 t5 tk5 F5 N5 hM1 hM2
  have hM := mx_of hM1 hM2
  subst hM
  clear F2 N2 hM1 hM2
  try dsimp only
  k_steps
  refine go ?_
  rename Fr _ _ _ _ => F2
  rename News _ _ _ _ => N2
  refine min_list_N (s := ⟨_, _, _, _, _⟩) (by rfl) F2 N2 (News_isList N2 (.head _)) (hi trivial) (Nat.succ_pos _) ?_
  intro h5 M5 t5 tk5 F5 N5 hM1 hM2
  have hM := mn_of hM1 hM2
  subst hM
  clear F2 N2 hM1 hM2
  try dsimp only
  clear hi
  have hmx : mx3 a b c ≤ 8 ∧ 0 ≤ mx3 a b c := by unfold mx3; omega
  have hmn : mn3 a b c ≤ 8 ∧ 0 ≤ mn3 a b c ∧ mn3 a b c ≤ mx3 a b c := by unfold mn3 mx3; omega
  unfold hlsOkI at hc
  simp only [Bool.and_eq_true] at hc
  obtain ⟨⟨⟨⟨⟨c1, c2⟩, c3⟩, c4⟩, c5⟩, c6⟩ := hc
  generalize mx3 a b c = M at *
  generalize mn3 a b c = K at *
  k_steps
  refine go ?_
  rw [show [a, b, c].getD (Int.toNat 0) 0 = a from rfl]
  refine div_q (by rfl) (by omega) (by decide) ?_
  intro t7
  generalize hA1 : qF a 8 = A1 at c1 c2 c3 c4 c5 c6
  try dsimp only
  k_steps
  refine go ?_
  rw [show [a, b, c].getD (Int.toNat 1) 0 = b from rfl]
  refine div_q (by rfl) (by omega) (by decide) ?_
  intro t8
  generalize hB1 : qF b 8 = B1 at c1 c2 c3 c4 c5 c6
  try dsimp only
  k_steps
  refine go ?_
  rw [show [a, b, c].getD (Int.toNat 2) 0 = c from rfl]
  refine div_q (by rfl) (by omega) (by decide) ?_
  intro t9
  generalize hC1 : qF c 8 = C1 at c1 c2 c3 c4 c5 c6
  try dsimp only
  k_steps
  refine go ?_
  rename Fr _ _ _ _ => F7
  rename News _ _ _ _ => N7
  refine CallSpec.use (hls_spec w A1 B1 C1 t7 t8 t9 ((ll, W.listOf #[Value.int a ta, Value.int b tb, Value.int c tc] 0) :: rest) c1) (by assumption) F7 (by assumption) N7 (by assumption) rfl rfl ?_ ?_ ?_
  · ktr_room
  · ktr_units
  rintro v nw h' tk' ⟨TD, u1, u2, u3, rfl, rfl, hlt⟩ F8 N8
  clear F7 N7
  generalize hH : (hlsF A1 B1 C1).1 = H at *
  generalize hS : (hlsF A1 B1 C1).2.1 = V at *
  generalize hV : (hlsF A1 B1 C1).2.2 = SS at *
  try dsimp only
  k_steps
  rename Fr _ _ _ _ => F9
  rename News _ _ _ _ => N9
  refine done _ _ _ M K H SS V _ _ u1 u2 u3 hmx hmn c2 c3 c4 c5 c6 rfl rfl rfl rfl rfl rfl F9 (News_sub N9 fun q hq => .tail _ hq)
end Mine
end
section
open PySem PySem.W PySem.Calls PyProof.Rows
namespace Mine
theorem fillS22b : (PySem.Challenge.rw_ty0055_01, Mine.hd.heap_1) = (PySem.Challenge.rw_ty0055_01, Mine.hd.heap_1) := by
  k_fill
  rfl
local macro_rules | `(tactic| walk_at "call ref") => `(tactic| ((with_reducible show wpAny _ _ (call (Value.ref 266) _ _) _ _ _); refine halt ?_))

local macro_rules | `(tactic| walk_at "binaryOp Div int int") => `(tactic| (refine halt ?_))
local macro_rules | `(tactic| walk_at "compareOp Eq float float") => `(tactic| (refine halt ?_))
local macro_rules | `(tactic| walk_at "compareOp NotEq float float") => `(tactic| (refine halt ?_))
local macro_rules | `(tactic| walk_at "call type:int") => `(tactic| (refine halt ?_))
local macro_rules | `(tactic| walk_at "binaryOp Mult float int") => `(tactic| (refine halt ?_))

section
variable {prog : Program} {w : World} {A : Around} {E : Value → Shared → Prop} {s : Shared} {Q : Value → Shared → Prop} {a b : UInt64} {t u : Tok}
theorem eq_yes (e : flEq a b = true) (h : Q (.bool true) s) : wpAny (model prog w) A (compareOp .Eq (.float a t) (.float b u)) Q E s := by
  refine AutoFloatOps.eq_0 ?_
  have : (Float64.cmp a b == some Ordering.eq) = true := e
  rw [this]
  exact h
end
set_option maxRecDepth 100000 in
set_option maxHeartbeats 0 in
set_option pp.maxSteps 100000 in
theorem end_if {mean : ExcName → Option Value} {loose : List Str} {mg mb : Str → Option Value} (w : World) (h₀ : Heap) (fa : Addr) (cdv : Value) (m : Str → Option Value) (s : Shared) (Q : Flow → Shared → Prop) (E : Value → Shared → Prop)
   (KX : (KG w.params).In h₀) (T : Top VG loose mean mg mb h₀) (K0 : Below callerA h₀ [] h₀) (hE : PassesOwn (model PG w) (callerA.deeper (lawEnv h₀.objs.size fa cdv)) (lawEnv h₀.objs.size fa cdv) E)
   (ll : Addr) (a b c Sp : Int) (H : UInt64) (ta tb tc tS u1 : Tok) (rest : List (Addr × Obj)) (c2 : (!Sp == 0 || flEq H 0) = true) (c3 : Float64.isFinite (hueI H) = true) (c4 : (Flt.toInt Float64.truncOf (hueI H) == sixthF a b c) = true)
    (e_lights : m (Str.ofString "lights") = some (.ref ll)) (e_spread : m (Str.ofString "spread") = some (.int Sp tS)) (e_hue : m (Str.ofString "hue") = some (.float H u1))
   (F : Fr h₀ h₀.objs.size s.heap m)
   (N : News h₀ h₀.objs.size s.heap ((ll, W.listOf #[Value.int a ta, Value.int b tb, Value.int c tc] 0) :: rest))
   (done : ∀ h' tk m', ((∀ y, m' y = m y)) → Fr h₀ h₀.objs.size h' m' → News h₀ h₀.objs.size h' ((ll, W.listOf #[Value.int a ta, Value.int b tb, Value.int c tc] 0) :: rest) → Q .next { s with heap := h', toks := tk }) :
   wpAny (model PG w) (callerA.deeper (lawEnv h₀.objs.size fa cdv)) (execs ([lawAt 26]) (lawEnv h₀.objs.size fa cdv)) Q E s := by
  w_on
  replace F := Fr_knows F [((Str.ofString "lights"), .ref ll), ((Str.ofString "spread"), .int Sp tS), ((Str.ofString "hue"), .float H u1)] (kn1 e_lights (kn1 e_spread (kn1 e_hue kn0)))
  dsimp only [know] at F
  dsimp only [lawEnv, PG, KG, VG, S] at *
  conv in (occs := *) lawScope => all_goals whnf
  conv in (lawAt _) => whnf
  k_steps
  · refine go ?_
    refine ne_no (by rename Sp = 0 => e0; rw [e0] at c2; exact c2) ?_
    try dsimp only
    k_steps
    refine go ?_
    refine mul_6 ?_
    intro t7
    try dsimp only
    k_steps
    refine go ?_
    refine int_hue (by rfl) c3 ?_
    intro t8
    try dsimp only
    k_steps
    refine go ?_
    rename Fr _ _ _ _ => F7
    rename News _ _ _ _ => N7
    refine CallSpec.use (sixth_spec w ll a b c ta tb tc rest) (by assumption) F7 (by assumption) N7 (by assumption) rfl rfl ?_ ?_ ?_
    · ktr_room
    · ktr_units
    rintro v nw h' tk' ⟨⟨t9, rfl⟩, rfl⟩ F8 N8
    clear F7 N7
    rw [eq_of_beq c4]
    try dsimp only
    k_steps
    · exact absurd rfl (by assumption)
    rename Fr _ _ _ _ => F9
    rename News _ _ _ _ => N9
    exact done _ _ _ (fun y => know_if e_lights (know_if e_spread (know_if e_hue rfl))) F9 N9
  · refine go ?_
    refine mul_6 ?_
    intro t7
    try dsimp only
    k_steps
    refine go ?_
    refine int_hue (by rfl) c3 ?_
    intro t8
    try dsimp only
    k_steps
    refine go ?_
    rename Fr _ _ _ _ => F7
    rename News _ _ _ _ => N7
    refine CallSpec.use (sixth_spec w ll a b c ta tb tc rest) (by assumption) F7 (by assumption) N7 (by assumption) rfl rfl ?_ ?_ ?_
    · ktr_room
    · ktr_units
    rintro v nw h' tk' ⟨⟨t9, rfl⟩, rfl⟩ F8 N8
    clear F7 N7
    rw [eq_of_beq c4]
    try dsimp only
    k_steps
    · exact absurd rfl (by assumption)
    rename Fr _ _ _ _ => F9
    rename News _ _ _ _ => N9
    exact done _ _ _ (fun y => know_if e_lights (know_if e_spread (know_if e_hue rfl))) F9 N9
set_option maxRecDepth 100000 in
set_option maxHeartbeats 0 in
set_option pp.maxSteps 100000 in
theorem end_ret {mean : ExcName → Option Value} {loose : List Str} {mg mb : Str → Option Value} (w : World) (h₀ : Heap) (fa : Addr) (cdv : Value) (m : Str → Option Value) (s : Shared) (Q : Flow → Shared → Prop) (E : Value → Shared → Prop)
   (KX : (KG w.params).In h₀) (T : Top VG loose mean mg mb h₀) (K0 : Below callerA h₀ [] h₀) (hE : PassesOwn (model PG w) (callerA.deeper (lawEnv h₀.objs.size fa cdv)) (lawEnv h₀.objs.size fa cdv) E)
   (M K : Int) (SS V : UInt64) (tb tS u2 u3 : Tok) (rest : List (Addr × Obj)) (hM : M ≤ 8 ∧ 0 ≤ M) (hK : K ≤ 8 ∧ 0 ≤ K ∧ K ≤ M) (c5 : flEq V (qF (M + K) 16) = true) (c6 : flEq SS (if M - K = 0 then 0 else qF (M - K) (min (M + K) (16 - (M + K)))) = true)
    (e_both : m (Str.ofString "both") = some (.int (M + K) tb)) (e_spread : m (Str.ofString "spread") = some (.int (M - K) tS)) (e_middle : m (Str.ofString "middle") = some (.float V u2)) (e_share : m (Str.ofString "share") = some (.float SS u3))
   (F : Fr h₀ h₀.objs.size s.heap m)
   (N : News h₀ h₀.objs.size s.heap (rest))
   (done : ∀ h' tk m' nw, Fr h₀ h₀.objs.size h' m' → News h₀ h₀.objs.size h' nw → Q (.ret (.bool true)) { s with heap := h', toks := tk }) :
   wpAny (model PG w) (callerA.deeper (lawEnv h₀.objs.size fa cdv)) (execs ([lawAt 27]) (lawEnv h₀.objs.size fa cdv)) Q E s := by
  w_on
  replace F := Fr_knows F [((Str.ofString "both"), .int (M + K) tb), ((Str.ofString "spread"), .int (M - K) tS), ((Str.ofString "middle"), .float V u2), ((Str.ofString "share"), .float SS u3)] (kn1 e_both (kn1 e_spread (kn1 e_middle (kn1 e_share kn0))))
  dsimp only [know] at F
  dsimp only [lawEnv, PG, KG, VG, S] at *
  conv in (occs := *) lawScope => all_goals whnf
  conv in (lawAt _) => whnf
  k_steps
  refine go ?_
  refine div_q (by rfl) (by omega) (by decide) ?_
  intro t7
  try dsimp only
  k_steps
  refine go ?_
  refine eq_yes c5 ?_
  try dsimp only
  k_steps
  · refine go ?_
    rename ¬ M - K = 0 => hS0
    rw [show (if 16 - (M + K) < M + K then 16 - (M + K) else M + K) = min (M + K) (16 - (M + K)) by split <;> omega]
    refine div_q (by rfl) (by omega) (by omega) ?_
    intro t8
    try dsimp only
    k_steps
    refine go ?_
    refine eq_yes (by rw [if_neg hS0] at c6; exact c6) ?_
    try dsimp only
    k_steps
    rename Fr _ _ _ _ => F9
    rename News _ _ _ _ => N9
    exact done _ _ _ _ F9 N9
  · refine go ?_
    rename M - K = 0 => hS0
    refine eq_yes (by rw [if_pos hS0] at c6; exact c6) ?_
    try dsimp only
    k_steps
    rename Fr _ _ _ _ => F9
    rename News _ _ _ _ => N9
    exact done _ _ _ _ F9 N9
end Mine
end
section
open PySem PySem.W PySem.Calls PyProof.Rows PySem.Flt
namespace Mine
theorem tri_all0 : (allS fun S => (!(levB S 0 && levB S 1) || levB S 3) && (!(levB S 0 && levB S 3) || levB S 1) && (!(levB S 1 && levB S 3) || levB S 0) &&
    ((!(levB S 0 && levB S 2) || levB S 4) && (!(levB S 0 && levB S 4) || levB S 2) && (!(levB S 2 && levB S 4) || levB S 0)) &&
    ((!(levB S 1 && levB S 2) || levB S 5) && (!(levB S 1 && levB S 5) || levB S 2) && (!(levB S 2 && levB S 5) || levB S 1)) &&
    ((!(levB S 3 && levB S 4) || levB S 5) && (!(levB S 3 && levB S 5) || levB S 4) && (!(levB S 4 && levB S 5) || levB S 3))) = true := by decide +kernel
/-- two of three straits at most so deep: so is the third -/
theorem ultra {D : NatF} {a b c : F6} (h : ∀ S, (!(levB S a && levB S b) || levB S c) = true) : levN D c ≤ max (levN D a) (levN D b) := by
  have h1 := h (upTo D (max (levN D a) (levN D b)))
  rw [lev_le, lev_le, lev_le] at h1
  rw [decide_eq_true (Nat.le_max_left _ _), decide_eq_true (Nat.le_max_right _ _)] at h1
  simpa using h1
theorem two3_iff {a b c : Int} : two3 a b c = true ↔ (c ≤ max a b ∧ b ≤ max a c ∧ a ≤ max b c) := by
  unfold two3
  simp only [Bool.or_eq_true, Bool.and_eq_true, beq_iff_eq, decide_eq_true_eq]
  omega
theorem two3_of {a b c : Int} (h1 : c ≤ max a b) (h2 : b ≤ max a c) (h3 : a ≤ max b c) : two3 a b c = true := two3_iff.mpr ⟨h1, h2, h3⟩
theorem tris (D : NatF) : two3 (levI D 0) (levI D 1) (levI D 3) = true ∧ two3 (levI D 0) (levI D 2) (levI D 4) = true ∧ two3 (levI D 1) (levI D 2) (levI D 5) = true ∧ two3 (levI D 3) (levI D 4) (levI D 5) = true := by
  have H := allS_iff tri_all0
  simp only [Bool.and_eq_true] at H
  have c (a b : F6) {x : Nat} (h : x ≤ max (levN D a) (levN D b)) : (x : Int) ≤ max (levI D a) (levI D b) := by unfold levI; omega
  exact ⟨two3_of (c _ _ (ultra fun S => (H S).1.1.1.1.1)) (c _ _ (ultra fun S => (H S).1.1.1.1.2)) (c _ _ (ultra fun S => (H S).1.1.1.2)),
    two3_of (c _ _ (ultra fun S => (H S).1.1.2.1.1)) (c _ _ (ultra fun S => (H S).1.1.2.1.2)) (c _ _ (ultra fun S => (H S).1.1.2.2)),
    two3_of (c _ _ (ultra fun S => (H S).1.2.1.1)) (c _ _ (ultra fun S => (H S).1.2.1.2)) (c _ _ (ultra fun S => (H S).1.2.2)),
    two3_of (c _ _ (ultra fun S => (H S).2.1.1)) (c _ _ (ultra fun S => (H S).2.1.2)) (c _ _ (ultra fun S => (H S).2.2))⟩
theorem four_pt {a b c d e f : Int} (h1 : c ≤ max a e) (h2 : c ≤ max b f) (h3 : d ≤ max a b) (h4 : d ≤ max e f) : c + d ≤ max (a + f) (b + e) := by omega
theorem sums3 (D : NatF) : two3 (levI D 0 + levI D 5) (levI D 1 + levI D 4) (levI D 2 + levI D 3) = true := by
  obtain ⟨h1, h2, h3, h4⟩ := tris D
  rw [two3_iff] at *
  obtain ⟨p1, p2, p3⟩ := h1
  obtain ⟨q1, q2, q3⟩ := h2
  obtain ⟨r1, r2, r3⟩ := h3
  obtain ⟨s1, s2, s3⟩ := h4
  refine ⟨?_, ?_, ?_⟩
  · exact four_pt q2 r2 p1 s3
  · exact four_pt p2 r3 q1 s2
  · have := four_pt (a := levI D 1) (b := levI D 2) (c := levI D 0) (d := levI D 5) (e := levI D 3) (f := levI D 4) p3 q3 r1 s1
    exact this
theorem levI_bd {D : NatF} (hD : ∀ p, D p < 5) (p : F6) : 0 ≤ levI D p ∧ levI D p < 5 := by
  have := lev_lt hD p
  unfold levI
  omega
theorem mem_upto {n : Nat} {a : Int} (h : 0 ≤ a ∧ a < n) : a ∈ upto n := by
  unfold upto
  exact List.mem_map.mpr ⟨a.toNat, List.mem_range.mpr (by omega), by show ((a.toNat : Nat) : Int) = a; omega⟩
theorem colOk_of {a b c : Int} (ha : 0 ≤ a ∧ a < 5) (hb : 0 ≤ b ∧ b < 5) (hc : 0 ≤ c ∧ c < 5) (h : two3 a b c = true) : colOk a b c = true := by
  have := List.all_eq_true.mp (List.all_eq_true.mp (List.all_eq_true.mp col_all a (mem_upto ha)) b (mem_upto hb)) c (mem_upto hc)
  simpa [h] using this
theorem hlsOk_of {a b c : Int} (ha : 0 ≤ a ∧ a ≤ 8) (hb : 0 ≤ b ∧ b ≤ 8) (hc : 0 ≤ c ∧ c ≤ 8) (h : two3 a b c = true) : hlsOkI a b c = true := by
  have := List.all_eq_true.mp (List.all_eq_true.mp (List.all_eq_true.mp hls_all a (mem_upto (by omega))) b (mem_upto (by omega))) c (mem_upto (by omega))
  simpa [h] using this
end Mine
end
section
open PySem PySem.W PySem.Calls PyProof.Rows
namespace Mine
set_option maxRecDepth 100000 in
set_option maxHeartbeats 0 in
theorem law_tail {mean : ExcName → Option Value} {loose : List Str} {mg mb : Str → Option Value} (w : World) (h₀ : Heap) (fa : Addr) (cdv : Value) (m : Str → Option Value) (s : Shared) (Q : Flow → Shared → Prop) (E : Value → Shared → Prop)
   (KX : (KG w.params).In h₀) (T : Top VG loose mean mg mb h₀) (K0 : Below callerA h₀ [] h₀) (hE : PassesOwn (model PG w) (callerA.deeper (lawEnv h₀.objs.size fa cdv)) (lawEnv h₀.objs.size fa cdv) E)
   (o1 o2 o3 o4 o5 : Obj) (pl dl hol : Addr) (pk dk oe : Nat) (D : NatF) (pu td : F6 → Tok) (hv : List Value) (tp : Tok)
   (ho1 : o1.data = .cell (some (.ref pl))) (ho3 : o3.data = .cell (some (.ref hol))) (ho4 : o4.data = .cell none) (ho5 : o5.data = .cell none) (hD : ∀ p, D p < 5) (hH : StrsAre hv (hsL D 5))
   (n4 : ∀ q ∈ [(dl, W.listOf (drawnV (fun p => (D p : Int)) td).toArray dk), (pl, W.listOf (pairsV pu).toArray pk), (hol, W.listOf hv.toArray oe)], q.1 ≠ h₀.objs.size + 1 + 1 + 1 + 1) (n5 : ∀ q ∈ [(dl, W.listOf (drawnV (fun p => (D p : Int)) td).toArray dk), (pl, W.listOf (pairsV pu).toArray pk), (hol, W.listOf hv.toArray oe)], q.1 ≠ h₀.objs.size + 1 + 1 + 1 + 1 + 1)
   (e_depths : m (Str.ofString "depths") = some (.ref dl)) (e_parted : m (Str.ofString "parted") = some (.int (paL D 5) tp))
   (F : Fr h₀ h₀.objs.size s.heap m)
   (N : News h₀ h₀.objs.size s.heap ((dl, W.listOf (drawnV (fun p => (D p : Int)) td).toArray dk) :: (pl, W.listOf (pairsV pu).toArray pk) :: (h₀.objs.size + 1 + 1 + 1 + 1 + 1, o5) :: (h₀.objs.size + 1 + 1 + 1 + 1, o4) :: (h₀.objs.size + 1 + 1 + 1, o3) :: (h₀.objs.size + 1 + 1, o2) :: (h₀.objs.size + 1, o1) :: [(hol, W.listOf hv.toArray oe)])) 
   (done : ∀ h' tk m' nw, Fr h₀ h₀.objs.size h' m' → News h₀ h₀.objs.size h' nw → Q (.ret (.bool true)) { s with heap := h', toks := tk }) :
   wpAny (model PG w) (callerA.deeper (lawEnv h₀.objs.size fa cdv)) (execs [lawAt 14, lawAt 15, lawAt 16, lawAt 17, lawAt 18, lawAt 19, lawAt 20, lawAt 21, lawAt 22, lawAt 23, lawAt 24, lawAt 25, lawAt 26, lawAt 27] (lawEnv h₀.objs.size fa cdv)) Q E s := by
  have hP := hsL_all D hD
  -- known
  refine step_seq (known_step w h₀ fa cdv m s _ E KX T K0 hE o1 o2 o3 o4 o5 dl pl dk pk (fun p => (D p : Int)) td pu [(hol, W.listOf hv.toArray oe)] ho1 ho4 n4 e_depths F N ?_)
  rintro s1 k1 m1 kd od kvs o4' hdo hkn ho4' nk hm1 F1 N1
  clear F N
  show wpAny _ _ _ _ _ _
  -- levels
  refine step_seq (levels_step w h₀ fa cdv m1 _ _ E KX T K0 hE o1 o2 o3 o4' o5 pl kd pk od kvs D pu [(dl, W.listOf (drawnV (fun p => (D p : Int)) td).toArray dk), (hol, W.listOf hv.toArray oe)] ho1 ho4' ho5 hdo hkn ?_ F1 (News_sub N1 ?_) ?_)
  · intro q hq
    simp only [List.mem_cons, List.not_mem_nil, or_false] at hq
    rcases hq with rfl | rfl | rfl | rfl
    · exact n5 (pl, W.listOf (pairsV pu).toArray pk) (by (repeat first | with_reducible assumption | with_reducible exact List.mem_cons_self | with_reducible refine List.mem_cons_of_mem _ ?_ | with_reducible exact List.mem_append_left _ (by assumption) | with_reducible refine List.mem_append_right _ ?_))
    · exact Ne.symm (nk (h₀.objs.size + 1 + 1 + 1 + 1 + 1, o5) (by (repeat first | with_reducible assumption | with_reducible exact List.mem_cons_self | with_reducible refine List.mem_cons_of_mem _ ?_ | with_reducible exact List.mem_append_left _ (by assumption) | with_reducible refine List.mem_append_right _ ?_)))
    · exact n5 (dl, W.listOf (drawnV (fun p => (D p : Int)) td).toArray dk) (by (repeat first | with_reducible assumption | with_reducible exact List.mem_cons_self | with_reducible refine List.mem_cons_of_mem _ ?_ | with_reducible exact List.mem_append_left _ (by assumption) | with_reducible refine List.mem_append_right _ ?_))
    · exact n5 (hol, W.listOf hv.toArray oe) (by (repeat first | with_reducible assumption | with_reducible exact List.mem_cons_self | with_reducible refine List.mem_cons_of_mem _ ?_ | with_reducible exact List.mem_append_left _ (by assumption) | with_reducible refine List.mem_append_right _ ?_))
  · (repeat with_reducible refine List.forall_mem_cons.mpr ⟨(by (repeat first | with_reducible assumption | with_reducible exact List.mem_cons_self | with_reducible refine List.mem_cons_of_mem _ ?_ | with_reducible exact List.mem_append_left _ (by assumption) | with_reducible refine List.mem_append_right _ ?_)), ?_⟩); first | exact fun _ hq => absurd hq List.not_mem_nil | (intro q hq; (repeat first | with_reducible assumption | with_reducible exact List.mem_cons_self | with_reducible refine List.mem_cons_of_mem _ ?_ | with_reducible exact List.mem_append_left _ (by assumption) | with_reducible refine List.mem_append_right _ ?_); done) | (intro q hq; rcases List.mem_append.mp hq with hq | hq <;> (repeat first | with_reducible assumption | with_reducible exact List.mem_cons_self | with_reducible refine List.mem_cons_of_mem _ ?_ | with_reducible exact List.mem_append_left _ (by assumption) | with_reducible refine List.mem_append_right _ ?_))
  rintro s2 k2 m2 ll lk tl o5' ho5' hm2 F2 N2
  clear F1 N1
  show wpAny _ _ _ _ _ _
  -- sorted
  refine step_seq (sorted_step w h₀ fa cdv m2 _ _ E KX T K0 hE o1 o2 o3 o4' o5' pl ll hol pk lk oe D pu tl hv [(dl, W.listOf (drawnV (fun p => (D p : Int)) td).toArray dk)] ho1 ho3 ho5' (hsL D 5) hH hP hD F2 (News_sub N2 ?_) ?_)
  · (repeat with_reducible refine List.forall_mem_cons.mpr ⟨(by (repeat first | with_reducible assumption | with_reducible exact List.mem_cons_self | with_reducible refine List.mem_cons_of_mem _ ?_ | with_reducible exact List.mem_append_left _ (by assumption) | with_reducible refine List.mem_append_right _ ?_)), ?_⟩); first | exact fun _ hq => absurd hq List.not_mem_nil | (intro q hq; (repeat first | with_reducible assumption | with_reducible exact List.mem_cons_self | with_reducible refine List.mem_cons_of_mem _ ?_ | with_reducible exact List.mem_append_left _ (by assumption) | with_reducible refine List.mem_append_right _ ?_); done) | (intro q hq; rcases List.mem_append.mp hq with hq | hq <;> (repeat first | with_reducible assumption | with_reducible exact List.mem_cons_self | with_reducible refine List.mem_cons_of_mem _ ?_ | with_reducible exact List.mem_append_left _ (by assumption) | with_reducible refine List.mem_append_right _ ?_))
  rintro s3 k3 m3 hm3 F3 N3
  clear F2 N2
  show wpAny _ _ _ _ _ _
  -- nets
  refine step_seq (nets0_step w h₀ fa cdv m3 _ _ E KX T K0 hE ((dl, W.listOf (drawnV (fun p => (D p : Int)) td).toArray dk) :: (pl, W.listOf (pairsV pu).toArray pk) :: (h₀.objs.size + 1 + 1 + 1 + 1 + 1, o5') :: (h₀.objs.size + 1 + 1 + 1 + 1, o4') :: (h₀.objs.size + 1 + 1 + 1, o3) :: (h₀.objs.size + 1 + 1, o2) :: (h₀.objs.size + 1, o1) :: [(hol, W.listOf hv.toArray oe)])  F3 (News_sub N3 ?_) ?_)
  · (repeat with_reducible refine List.forall_mem_cons.mpr ⟨(by (repeat first | with_reducible assumption | with_reducible exact List.mem_cons_self | with_reducible refine List.mem_cons_of_mem _ ?_ | with_reducible exact List.mem_append_left _ (by assumption) | with_reducible refine List.mem_append_right _ ?_)), ?_⟩); first | exact fun _ hq => absurd hq List.not_mem_nil | (intro q hq; (repeat first | with_reducible assumption | with_reducible exact List.mem_cons_self | with_reducible refine List.mem_cons_of_mem _ ?_ | with_reducible exact List.mem_append_left _ (by assumption) | with_reducible refine List.mem_append_right _ ?_); done) | (intro q hq; rcases List.mem_append.mp hq with hq | hq <;> (repeat first | with_reducible assumption | with_reducible exact List.mem_cons_self | with_reducible refine List.mem_cons_of_mem _ ?_ | with_reducible exact List.mem_append_left _ (by assumption) | with_reducible refine List.mem_append_right _ ?_))
  rintro s4 k4 m4 nl nk4 e_nets hm4 hnl F4 N4
  clear F3 N3
  have ed4 : m4 (Str.ofString "depths") = some (.ref dl) := (hm4 _ (by decide)).trans ((hm3 _).trans ((hm2 _).trans ((hm1 _).trans e_depths)))
  have ep4 : m4 (Str.ofString "parted") = some (.int (paL D 5) tp) := (hm4 _ (by decide)).trans ((hm3 _).trans ((hm2 _).trans ((hm1 _).trans e_parted)))
  show wpAny _ _ _ _ _ _
  refine step_seq (nets_i w h₀ fa cdv m4 _ _ E KX T K0 hE o1 o2 o3 o4' o5' nl dl pl nk4 dk pk D td pu [] [] [(hol, W.listOf hv.toArray oe)] ho1 hD .nil (by decide) (fun q hq => Nat.ne_of_lt (hnl q hq)) e_nets ed4 F4 N4 ?_)
  rintro s5 k5 m5 nv nk5 hnv hm5 F5 N5
  clear F4 N4
  rw [List.nil_append, tri_all] at hnv
  show wpAny _ _ _ _ _ _
  refine step_seq (nets_step w h₀ fa cdv m5 _ _ E KX T K0 hE nl nk5 nv D tp _ hD hnv ((hm5 _ (by decide) (by decide) (by decide)).trans e_nets) ((hm5 _ (by decide) (by decide) (by decide)).trans ep4) F5 N5 ?_)
  rintro s6 k6 m6 hm6 F6 N6
  clear F5 N5
  show wpAny _ _ _ _ _ _
  -- dots
  refine step_seq (dots_step w h₀ fa cdv m6 _ _ E KX T K0 hE o1 o2 o3 o4' o5' pl hol pk oe D pu hv [] ho1 ho3 (hsL D 5) hH hP hD F6 (News_sub N6 ?_) ?_)
  · (repeat with_reducible refine List.forall_mem_cons.mpr ⟨(by (repeat first | with_reducible assumption | with_reducible exact List.mem_cons_self | with_reducible refine List.mem_cons_of_mem _ ?_ | with_reducible exact List.mem_append_left _ (by assumption) | with_reducible refine List.mem_append_right _ ?_)), ?_⟩); first | exact fun _ hq => absurd hq List.not_mem_nil | (intro q hq; (repeat first | with_reducible assumption | with_reducible exact List.mem_cons_self | with_reducible refine List.mem_cons_of_mem _ ?_ | with_reducible exact List.mem_append_left _ (by assumption) | with_reducible refine List.mem_append_right _ ?_); done) | (intro q hq; rcases List.mem_append.mp hq with hq | hq <;> (repeat first | with_reducible assumption | with_reducible exact List.mem_cons_self | with_reducible refine List.mem_cons_of_mem _ ?_ | with_reducible exact List.mem_append_left _ (by assumption) | with_reducible refine List.mem_append_right _ ?_))
  rintro s7 k7 m7 dol dk7 te e_dots _ hm7 F7 N7
  clear F6 N6
  have hb := fun p => levI_bd hD p
  obtain ⟨w0, w1, w2, w3⟩ := tris D
  have q0 : colOk (levI D 0) (levI D 1) (levI D 3) = true := colOk_of (hb 0) (hb 1) (hb 3) w0
  have q1 : colOk (levI D 0) (levI D 2) (levI D 4) = true := colOk_of (hb 0) (hb 2) (hb 4) w1
  have q2 : colOk (levI D 1) (levI D 2) (levI D 5) = true := colOk_of (hb 1) (hb 2) (hb 5) w2
  have q3 : colOk (levI D 3) (levI D 4) (levI D 5) = true := colOk_of (hb 3) (hb 4) (hb 5) w3
  have N7' : News h₀ h₀.objs.size _ [(dol, W.listOf (drawnV (levI D) te).toArray dk7)] := News_sub N7 fun q hq => by rw [List.mem_singleton.mp hq]; exact .head _
  clear N7
  show wpAny _ _ _ _ _ _
  -- colours
  refine step_seq ?_
  refine @colours mean loose mg mb w h₀ fa cdv m7 _ _ E KX T K0 hE dol dk7 (levI D) te [] hb q0 q1 q2 q3 ?_ ?_ ?_ ?_
  · exact e_dots
  · exact F7
  · exact N7'
  rintro s8 k8 m8 hm8 F8 N8
  clear F7 N7'
  show wpAny _ _ _ _ _ _
  refine step_seq ?_
  refine @sums0_step mean loose mg mb w h₀ fa cdv m8 _ _ E KX T K0 hE dol dk7 (levI D) te [] hb ?_ ?_ ?_ ?_
  · exact (hm8 _ (by decide)).trans e_dots
  · exact F8
  · exact N8
  rintro s9 k9 m9 l9 ta tb tc e_lights F9 N9
  clear F8 N8
  show wpAny _ _ _ _ _ _
  have h05 : 0 ≤ levI D 0 + levI D 5 ∧ levI D 0 + levI D 5 ≤ 8 := by have := hb 0; have := hb 5; omega
  have h14 : 0 ≤ levI D 1 + levI D 4 ∧ levI D 1 + levI D 4 ≤ 8 := by have := hb 1; have := hb 4; omega
  have h23 : 0 ≤ levI D 2 + levI D 3 ∧ levI D 2 + levI D 3 ≤ 8 := by have := hb 2; have := hb 3; omega
  refine execs_append (xs := [lawAt 23, lawAt 24, lawAt 25]) (ys := [lawAt 26, lawAt 27]) ?_
  refine @sums_step mean loose mg mb w h₀ fa cdv m9 _ _ E KX T K0 hE l9 (levI D 0 + levI D 5) (levI D 1 + levI D 4) (levI D 2 + levI D 3) ta tb tc [(dol, W.listOf (drawnV (levI D) te).toArray dk7)] h05 h14 h23 (hlsOk_of h05 h14 h23 (sums3 D)) ?_ ?_ ?_ ?_
  · exact e_lights
  · exact F9
  · exact N9
  rintro s10 k10 m10 M K H SS V tb' tS u1 u2 u3 hM hK c2 c3 c4 c5 c6 a1 a2 a3 a4 a5 a6 F10 N10
  clear F9 N9
  show wpAny _ _ _ _ _ _
  refine step_seq ?_
  refine @end_if mean loose mg mb w h₀ fa cdv m10 _ _ E KX T K0 hE l9 (levI D 0 + levI D 5) (levI D 1 + levI D 4) (levI D 2 + levI D 3) (M - K) H ta tb tc tS u1 [(dol, W.listOf (drawnV (levI D) te).toArray dk7)] c2 c3 c4 ?_ ?_ ?_ ?_ ?_ ?_
  · exact a1
  · exact a3
  · exact a4
  · exact F10
  · exact N10
  rintro s11 k11 m11 hm11 F11 N11
  clear F10 N10
  show wpAny _ _ _ _ _ _
  refine @end_ret mean loose mg mb w h₀ fa cdv m11 _ _ E KX T K0 hE M K SS V tb' tS u2 u3 ((l9, W.listOf #[Value.int (levI D 0 + levI D 5) ta, Value.int (levI D 1 + levI D 4) tb, Value.int (levI D 2 + levI D 3) tc] 0) :: [(dol, W.listOf (drawnV (levI D) te).toArray dk7)]) hM hK c5 c6 ?_ ?_ ?_ ?_ ?_ ?_ ?_
  · exact (hm11 _).trans a2
  · exact (hm11 _).trans a3
  · exact (hm11 _).trans a5
  · exact (hm11 _).trans a6
  · exact F11
  · exact N11
  intro h' tk m' nw F N
  exact done h' tk m' nw F N
end Mine
end
section
open PySem PySem.W PySem.Calls PyProof.Rows
namespace Mine
theorem ne_objs {g h : Heap} {L : Addr} {nw : List (Addr × Obj)} {p q : Addr × Obj} (N : News g L h nw) (hp : p ∈ nw) (hq : q ∈ nw) (h : p.2 ≠ q.2) : p.1 ≠ q.1 := fun e => by
  have a := (N p hp).1
  have b := (N q hq).1
  rw [e, b] at a
  exact h (Option.some.inj a).symm
theorem book_good (a0 a1 a2 a3 : Addr) (tb ub : F4 → Tok) : Good (bookRows a0 a1 a2 a3 tb ub) id :=
  ⟨by show [(0 : F4), 1, 2, 3].Nodup; decide, fun r hr => by simp only [bookRows, List.mem_cons, List.not_mem_nil, or_false] at hr; rcases hr with rfl | rfl | rfl | rfl <;> rfl,
    fun j => by
      match j with
      | 0 => exact ⟨_, .head _, rfl⟩
      | 1 => exact ⟨_, .tail _ (.head _), rfl⟩
      | 2 => exact ⟨_, .tail _ (.tail _ (.head _)), rfl⟩
      | 3 => exact ⟨_, .tail _ (.tail _ (.tail _ (.head _))), rfl⟩, Nat.le_refl 4⟩
theorem book_rows {a0 a1 a2 a3 : Addr} {tb ub : F4 → Tok} : ∀ r ∈ bookRows a0 a1 a2 a3 tb ub, (r.a, r.obj) ∈ bookLed a0 a1 a2 a3 tb ub := by
  intro r hr
  simp only [bookRows, List.mem_cons, List.not_mem_nil, or_false] at hr
  rcases hr with rfl | rfl | rfl | rfl
  · exact .tail _ (.tail _ (.tail _ (.head _)))
  · exact .tail _ (.tail _ (.head _))
  · exact .tail _ (.head _)
  · exact .head _
theorem rows_to {rest rest' : List (Addr × Obj)} {vs : List Value} {es : List (Int × Str)} (R : Mine.Rows rest vs es) (hs : ∀ a l n, (a, tupO l n) ∈ rest → (a, tupO l n) ∈ rest') : Mine.Rows rest' vs es :=
  ⟨R.len, fun i v e hv he => by obtain ⟨a, tk, u, n, e1, e2⟩ := R.at_ i v e hv he; exact ⟨a, tk, u, n, e1, hs _ _ _ e2⟩⟩
theorem tup_cell {l : List Value} {n : Nat} {o : Obj} {c : Option Value} (h : o.data = .cell c) : tupO l n ≠ o := fun e => by rw [← e] at h; cases h
theorem tup_list {l l' : List Value} {n k : Nat} : tupO l n ≠ W.listOf l'.toArray k := fun e => by
  have := congrArg Obj.cls e
  exact absurd this (by show (Value.type "tuple") ≠ Value.type "list"; decide)
theorem book_data {a0 a1 a2 a3 : Addr} {tb ub : F4 → Tok} : ∀ p ∈ bookLed a0 a1 a2 a3 tb ub, ∀ c, p.2.data ≠ .cell c := by
  intro p hp c
  simp only [bookLed, List.mem_cons, List.not_mem_nil, or_false] at hp
  rcases hp with rfl | rfl | rfl | rfl <;> exact fun e => nomatch e
set_option maxRecDepth 100000 in
set_option maxHeartbeats 0 in
theorem law_whole {mean : ExcName → Option Value} {loose : List Str} {mg mb : Str → Option Value} (w : World) (h₀ : Heap) (fa : Addr) (cdv : Value) (m : Str → Option Value) (s : Shared) (Q : Flow → Shared → Prop) (E : Value → Shared → Prop)
   (KX : (KG w.params).In h₀) (T : Top VG loose mean mg mb h₀) (K0 : Below callerA h₀ [] h₀) (hE : PassesOwn (model PG w) (callerA.deeper (lawEnv h₀.objs.size fa cdv)) (lawEnv h₀.objs.size fa cdv) E)
   (o1 o2 o3 o4 o5 : Obj) (sl : Addr) (ws : List Value) (ns : List Int) (hsl : h₀.IsList sl ws.toArray) (hI : IntsAre ws ns) (hn : ns.length ≤ 63)
   (ho1 : o1.data = .cell none) (ho2 : o2.data = .cell none) (ho3 : o3.data = .cell none) (ho4 : o4.data = .cell none) (ho5 : o5.data = .cell none)
   (e_script : m (Str.ofString "script") = some (.ref sl))
   (F : Fr h₀ h₀.objs.size s.heap m) (N : News h₀ h₀.objs.size s.heap ((h₀.objs.size + 1 + 1 + 1 + 1 + 1, o5) :: (h₀.objs.size + 1 + 1 + 1 + 1, o4) :: (h₀.objs.size + 1 + 1 + 1, o3) :: (h₀.objs.size + 1 + 1, o2) :: (h₀.objs.size + 1, o1) :: []))
   (done : ∀ h' tk m' nw, Fr h₀ h₀.objs.size h' m' → News h₀ h₀.objs.size h' nw → Q (.ret (.bool true)) { s with heap := h', toks := tk }) :
   wpAny (model PG w) (callerA.deeper (lawEnv h₀.objs.size fa cdv)) (execs [lawAt 0, lawAt 1, lawAt 2, lawAt 3, lawAt 4, lawAt 5, lawAt 6, lawAt 7, lawAt 8, lawAt 9, lawAt 10, lawAt 11, lawAt 12, lawAt 13, lawAt 14, lawAt 15, lawAt 16, lawAt 17, lawAt 18, lawAt 19, lawAt 20, lawAt 21, lawAt 22, lawAt 23, lawAt 24, lawAt 25, lawAt 26, lawAt 27] (lawEnv h₀.objs.size fa cdv)) Q E s := by
  -- fixed
  refine step_seq ?_
  refine @fixed_step mean loose mg mb w h₀ fa cdv m s _ E KX T K0 hE ((h₀.objs.size + 1 + 1 + 1 + 1 + 1, o5) :: (h₀.objs.size + 1 + 1 + 1 + 1, o4) :: (h₀.objs.size + 1 + 1 + 1, o3) :: (h₀.objs.size + 1 + 1, o2) :: (h₀.objs.size + 1, o1) :: []) ?_ ?_ ?_
  · exact F
  · exact N
  rintro s0 k0 m0 fl fk tf e_fixed hm0 _ F0 N0
  clear F N
  show wpAny _ _ _ _ _ _
  -- drawn
  refine step_seq ?_
  refine @drawn_step mean loose mg mb w h₀ fa cdv m0 _ _ E KX T K0 hE fl fk tf sl ws ns hsl hI hn ((h₀.objs.size + 1 + 1 + 1 + 1 + 1, o5) :: (h₀.objs.size + 1 + 1 + 1 + 1, o4) :: (h₀.objs.size + 1 + 1 + 1, o3) :: (h₀.objs.size + 1 + 1, o2) :: (h₀.objs.size + 1, o1) :: []) ?_ e_fixed ?_ ?_ ?_
  · exact (hm0 _ (by decide)).trans e_script
  · exact F0
  · exact N0
  rintro s1 k1 m1 dr dk d td e_drawn hm1 hdr F1 N1
  clear F0 N0
  show wpAny _ _ _ _ _ _
  -- pairs
  refine step_seq ?_
  refine @pairs_step mean loose mg mb w h₀ fa cdv m1 _ _ E KX T K0 hE o1 o2 o3 o4 o5 [(dr, W.listOf (drawnV d td).toArray dk)] ?_ ho1 ?_ ?_ ?_
  · intro p hp
    rw [List.mem_singleton.mp hp]
    exact Nat.ne_of_gt (hdr (h₀.objs.size + 1, o1) (by (repeat first | with_reducible assumption | with_reducible exact List.mem_cons_self | with_reducible refine List.mem_cons_of_mem _ ?_ | with_reducible exact List.mem_append_left _ (by assumption) | with_reducible refine List.mem_append_right _ ?_)))
  · exact F1
  · refine News_sub N1 ?_
    (repeat with_reducible refine sub_cons (by (repeat first | with_reducible assumption | with_reducible exact List.mem_cons_self | with_reducible refine List.mem_cons_of_mem _ ?_ | with_reducible exact List.mem_append_left _ (by assumption) | with_reducible refine List.mem_append_right _ ?_)) ?_); first | exact fun _ hq => absurd hq List.not_mem_nil | (intro q hq; (repeat first | with_reducible assumption | with_reducible exact List.mem_cons_self | with_reducible refine List.mem_cons_of_mem _ ?_ | with_reducible exact List.mem_append_left _ (by assumption) | with_reducible refine List.mem_append_right _ ?_); done) | (intro q hq; rcases List.mem_append.mp hq with hq | hq <;> (repeat first | with_reducible assumption | with_reducible exact List.mem_cons_self | with_reducible refine List.mem_cons_of_mem _ ?_ | with_reducible exact List.mem_append_left _ (by assumption) | with_reducible refine List.mem_append_right _ ?_))
  rintro s2 k2 m2 pl pk pu o1' ho1' hpl hm2 F2 N2
  clear F1 N1
  have hpl := allLt_mem hpl
  show wpAny _ _ _ _ _ _
  -- ends
  refine step_seq ?_
  refine @ends_step mean loose mg mb w h₀ fa cdv m2 _ _ E KX T K0 hE ((pl, W.listOf (pairsV pu).toArray pk) :: ((h₀.objs.size + 1 + 1 + 1 + 1 + 1, o5) :: (h₀.objs.size + 1 + 1 + 1 + 1, o4) :: (h₀.objs.size + 1 + 1 + 1, o3) :: (h₀.objs.size + 1 + 1, o2) :: (h₀.objs.size + 1, o1') :: [(dr, W.listOf (drawnV d td).toArray dk)])) ?_ ?_ ?_
  · exact F2
  · exact N2
  rintro s3 k3 m3 el ek0 e0 e1 e2 e_ends hm3 hel F3 N3
  clear F2 N2
  show wpAny _ _ _ _ _ _
  -- depths
  refine step_seq ?_
  refine @depths_step mean loose mg mb w h₀ fa cdv m3 _ _ E KX T K0 hE dr dk d td ((el, W.listOf [Value.str (endS 0) e0, Value.str (endS 1) e1, Value.str (endS 2) e2].toArray ek0) :: (pl, W.listOf (pairsV pu).toArray pk) :: ((h₀.objs.size + 1 + 1 + 1 + 1 + 1, o5) :: (h₀.objs.size + 1 + 1 + 1 + 1, o4) :: (h₀.objs.size + 1 + 1 + 1, o3) :: (h₀.objs.size + 1 + 1, o2) :: (h₀.objs.size + 1, o1') :: [])) ?_ ?_ ?_ ?_
  · exact (hm3 _ (by decide)).trans ((hm2 _).trans e_drawn)
  · exact F3
  · refine News_sub N3 ?_
    (repeat with_reducible refine sub_cons (by (repeat first | with_reducible assumption | with_reducible exact List.mem_cons_self | with_reducible refine List.mem_cons_of_mem _ ?_ | with_reducible exact List.mem_append_left _ (by assumption) | with_reducible refine List.mem_append_right _ ?_)) ?_); first | exact fun _ hq => absurd hq List.not_mem_nil | (intro q hq; (repeat first | with_reducible assumption | with_reducible exact List.mem_cons_self | with_reducible refine List.mem_cons_of_mem _ ?_ | with_reducible exact List.mem_append_left _ (by assumption) | with_reducible refine List.mem_append_right _ ?_); done) | (intro q hq; rcases List.mem_append.mp hq with hq | hq <;> (repeat first | with_reducible assumption | with_reducible exact List.mem_cons_self | with_reducible refine List.mem_cons_of_mem _ ?_ | with_reducible exact List.mem_append_left _ (by assumption) | with_reducible refine List.mem_append_right _ ?_))
  rintro s4 k4 m4 dl ek te e_depths hm4 hdl F4 N4
  clear F3 N3
  obtain ⟨D, hDe, hD⟩ : ∃ D : NatF, (fun p => (d p).fmod 5) = (fun p => (D p : Int)) ∧ ∀ p, D p < 5 := by
    refine ⟨fun p => ((d p).fmod 5).toNat, ?_, fun p => ?_⟩
    · funext p
      have := Int.fmod_nonneg_of_pos (d p) (show (0 : Int) < 5 by decide)
      show (d p).fmod 5 = ((((d p).fmod 5).toNat : Nat) : Int)
      omega
    · have := Int.fmod_lt_of_pos (d p) (show (0 : Int) < 5 by decide)
      have := Int.fmod_nonneg_of_pos (d p) (show (0 : Int) < 5 by decide)
      show ((d p).fmod 5).toNat < 5
      omega
  rw [hDe] at N4
  show wpAny _ _ _ _ _ _
  -- total
  refine step_seq ?_
  refine @total_step mean loose mg mb w h₀ fa cdv m4 _ _ E KX T K0 hE dr dk d td ((dl, W.listOf (drawnV (fun p => (D p : Int)) te).toArray ek) :: (el, W.listOf [Value.str (endS 0) e0, Value.str (endS 1) e1, Value.str (endS 2) e2].toArray ek0) :: (pl, W.listOf (pairsV pu).toArray pk) :: ((h₀.objs.size + 1 + 1 + 1 + 1 + 1, o5) :: (h₀.objs.size + 1 + 1 + 1 + 1, o4) :: (h₀.objs.size + 1 + 1 + 1, o3) :: (h₀.objs.size + 1 + 1, o2) :: (h₀.objs.size + 1, o1') :: [])) ?_ ?_ ?_ ?_
  · exact (hm4 _ (by decide)).trans ((hm3 _ (by decide)).trans ((hm2 _).trans e_drawn))
  · exact F4
  · refine News_sub N4 ?_
    (repeat with_reducible refine sub_cons (by (repeat first | with_reducible assumption | with_reducible exact List.mem_cons_self | with_reducible refine List.mem_cons_of_mem _ ?_ | with_reducible exact List.mem_append_left _ (by assumption) | with_reducible refine List.mem_append_right _ ?_)) ?_); first | exact fun _ hq => absurd hq List.not_mem_nil | (intro q hq; (repeat first | with_reducible assumption | with_reducible exact List.mem_cons_self | with_reducible refine List.mem_cons_of_mem _ ?_ | with_reducible exact List.mem_append_left _ (by assumption) | with_reducible refine List.mem_append_right _ ?_); done) | (intro q hq; rcases List.mem_append.mp hq with hq | hq <;> (repeat first | with_reducible assumption | with_reducible exact List.mem_cons_self | with_reducible refine List.mem_cons_of_mem _ ?_ | with_reducible exact List.mem_append_left _ (by assumption) | with_reducible refine List.mem_append_right _ ?_))
  rintro s5 k5 m5 T0 tt e_total hm5 F5 N5
  clear F4 N4
  show wpAny _ _ _ _ _ _
  -- order
  refine step_seq ?_
  refine @order_step mean loose mg mb w h₀ fa cdv m5 _ _ E KX T K0 hE ((dl, W.listOf (drawnV (fun p => (D p : Int)) te).toArray ek) :: (el, W.listOf [Value.str (endS 0) e0, Value.str (endS 1) e1, Value.str (endS 2) e2].toArray ek0) :: (pl, W.listOf (pairsV pu).toArray pk) :: ((h₀.objs.size + 1 + 1 + 1 + 1 + 1, o5) :: (h₀.objs.size + 1 + 1 + 1 + 1, o4) :: (h₀.objs.size + 1 + 1 + 1, o3) :: (h₀.objs.size + 1 + 1, o2) :: (h₀.objs.size + 1, o1') :: [])) ?_ ?_ ?_
  · exact F5
  · exact News_tail N5
  rintro s6 k6 m6 ol ok e_order hm6 hol F6 N6
  clear F5 N5
  show wpAny _ _ _ _ _ _
  -- insort
  refine step_seq ?_
  refine @insort_loop mean loose mg mb w h₀ fa cdv m6 _ _ E KX T K0 hE o1' o2 o3 o4 o5 dl pl ol ek pk ok (fun p => (D p : Int)) te pu [(el, W.listOf [Value.str (endS 0) e0, Value.str (endS 1) e1, Value.str (endS 2) e2].toArray ek0)] ho1' ?_ ?_ ?_ ?_ ?_ ?_
  · intro q hq
    refine Nat.ne_of_lt (hol q ?_)
    revert q
    (repeat with_reducible refine sub_cons (by (repeat first | with_reducible assumption | with_reducible exact List.mem_cons_self | with_reducible refine List.mem_cons_of_mem _ ?_ | with_reducible exact List.mem_append_left _ (by assumption) | with_reducible refine List.mem_append_right _ ?_)) ?_); first | exact fun _ hq => absurd hq List.not_mem_nil | (intro q hq; (repeat first | with_reducible assumption | with_reducible exact List.mem_cons_self | with_reducible refine List.mem_cons_of_mem _ ?_ | with_reducible exact List.mem_append_left _ (by assumption) | with_reducible refine List.mem_append_right _ ?_); done) | (intro q hq; rcases List.mem_append.mp hq with hq | hq <;> (repeat first | with_reducible assumption | with_reducible exact List.mem_cons_self | with_reducible refine List.mem_cons_of_mem _ ?_ | with_reducible exact List.mem_append_left _ (by assumption) | with_reducible refine List.mem_append_right _ ?_))
  · exact e_order
  · exact (hm6 _ (by decide)).trans ((hm5 _ (by decide)).trans e_depths)
  · exact F6
  · refine News_sub N6 ?_
    (repeat with_reducible refine sub_cons (by (repeat first | with_reducible assumption | with_reducible exact List.mem_cons_self | with_reducible refine List.mem_cons_of_mem _ ?_ | with_reducible exact List.mem_append_left _ (by assumption) | with_reducible refine List.mem_append_right _ ?_)) ?_); first | exact fun _ hq => absurd hq List.not_mem_nil | (intro q hq; (repeat first | with_reducible assumption | with_reducible exact List.mem_cons_self | with_reducible refine List.mem_cons_of_mem _ ?_ | with_reducible exact List.mem_append_left _ (by assumption) | with_reducible refine List.mem_append_right _ ?_); done) | (intro q hq; rcases List.mem_append.mp hq with hq | hq <;> (repeat first | with_reducible assumption | with_reducible exact List.mem_cons_self | with_reducible refine List.mem_cons_of_mem _ ?_ | with_reducible exact List.mem_append_left _ (by assumption) | with_reducible refine List.mem_append_right _ ?_))
  rintro s7 k7 m7 vs ep ord tups R hsort hperm htup hm7 F7 N7
  clear F6 N6
  have hperm : ord.Perm allP := hperm
  have E7 : ∀ y, y ∉ [Str.ofString "i"] → m7 y = m6 y := fun y hy => hm7 y (by simpa using hy)
  show wpAny _ _ _ _ _ _
  have lcell : ∀ q ∈ ((h₀.objs.size + 1 + 1 + 1 + 1 + 1, o5) :: (h₀.objs.size + 1 + 1 + 1 + 1, o4) :: (h₀.objs.size + 1 + 1 + 1, o3) :: (h₀.objs.size + 1 + 1, o2) :: (h₀.objs.size + 1, o1') :: [] : List (Addr × Obj)), @LT.lt Nat _ q.1 pl ∧ @LT.lt Nat _ q.1 el ∧ @Ne Nat q.1 dl ∧ @LT.lt Nat _ q.1 ol ∧ (∀ p ∈ tups, @Ne Nat p.1 q.1) := fun q hq => by
    refine ⟨hpl q ?_, hel q ?_, hdl q ?_, hol q ?_, fun p hp => (htup p hp).2 q ?_⟩ <;> (revert q; (repeat with_reducible refine sub_cons (by (repeat first | with_reducible assumption | with_reducible exact List.mem_cons_self | with_reducible refine List.mem_cons_of_mem _ ?_ | with_reducible exact List.mem_append_left _ (by assumption) | with_reducible refine List.mem_append_right _ ?_)) ?_); first | exact fun _ hq => absurd hq List.not_mem_nil | (intro q hq; (repeat first | with_reducible assumption | with_reducible exact List.mem_cons_self | with_reducible refine List.mem_cons_of_mem _ ?_ | with_reducible exact List.mem_append_left _ (by assumption) | with_reducible refine List.mem_append_right _ ?_); done) | (intro q hq; rcases List.mem_append.mp hq with hq | hq <;> (repeat first | with_reducible assumption | with_reducible exact List.mem_cons_self | with_reducible refine List.mem_cons_of_mem _ ?_ | with_reducible exact List.mem_append_left _ (by assumption) | with_reducible refine List.mem_append_right _ ?_)))
  -- book
  refine step_seq ?_
  refine @book_step mean loose mg mb w h₀ fa cdv m7 _ _ E KX T K0 hE o1' o2 o3 o4 o5 ((ol, W.listOf vs.toArray ep) :: (dl, W.listOf (drawnV (fun p => (D p : Int)) te).toArray ek) :: (pl, W.listOf (pairsV pu).toArray pk) :: (el, W.listOf [Value.str (endS 0) e0, Value.str (endS 1) e1, Value.str (endS 2) e2].toArray ek0) :: tups) ?_ ho2 ?_ ?_ ?_
  · have lc := lcell (h₀.objs.size + 1 + 1, o2) (by (repeat first | with_reducible assumption | with_reducible exact List.mem_cons_self | with_reducible refine List.mem_cons_of_mem _ ?_ | with_reducible exact List.mem_append_left _ (by assumption) | with_reducible refine List.mem_append_right _ ?_))
    intro p hp
    rcases List.mem_cons.mp hp with rfl | hp
    · exact Nat.ne_of_gt lc.2.2.2.1
    rcases List.mem_cons.mp hp with rfl | hp
    · exact Ne.symm lc.2.2.1
    rcases List.mem_cons.mp hp with rfl | hp
    · exact Nat.ne_of_gt lc.1
    rcases List.mem_cons.mp hp with rfl | hp
    · exact Nat.ne_of_gt lc.2.1
    exact lc.2.2.2.2 p hp
  · exact F7
  · refine News_sub N7 ?_
    (repeat with_reducible refine sub_cons (by (repeat first | with_reducible assumption | with_reducible exact List.mem_cons_self | with_reducible refine List.mem_cons_of_mem _ ?_ | with_reducible exact List.mem_append_left _ (by assumption) | with_reducible refine List.mem_append_right _ ?_)) ?_); first | exact fun _ hq => absurd hq List.not_mem_nil | (intro q hq; (repeat first | with_reducible assumption | with_reducible exact List.mem_cons_self | with_reducible refine List.mem_cons_of_mem _ ?_ | with_reducible exact List.mem_append_left _ (by assumption) | with_reducible refine List.mem_append_right _ ?_); done) | (intro q hq; rcases List.mem_append.mp hq with hq | hq <;> (repeat first | with_reducible assumption | with_reducible exact List.mem_cons_self | with_reducible refine List.mem_cons_of_mem _ ?_ | with_reducible exact List.mem_append_left _ (by assumption) | with_reducible refine List.mem_append_right _ ?_))
  rintro s8 k8 m8 kt sa da hl pe a0 a1 a2 a3 tb ub o2' ho2' lt1 lt2 hhl hm8 F8 N8
  clear F7 N7
  have hhl := allLt_mem hhl
  show wpAny _ _ _ _ _ _
  -- apart
  refine step_seq ?_
  refine @apart0_step mean loose mg mb w h₀ fa cdv m8 _ _ E KX T K0 hE o1' o2' o3 o4 o5 pl pu pk ((sa, instObj 229 da) :: (da, headD w kt hl 1) :: (hl, W.listOf (refs (bookRows a0 a1 a2 a3 tb ub)).toArray pe) :: (ol, W.listOf vs.toArray ep) :: (dl, W.listOf (drawnV (fun p => (D p : Int)) te).toArray ek) :: (el, W.listOf [Value.str (endS 0) e0, Value.str (endS 1) e1, Value.str (endS 2) e2].toArray ek0) :: (bookLed a0 a1 a2 a3 tb ub ++ tups)) ho1' ?_ ?_ ?_
  · exact F8
  · refine News_sub N8 ?_
    (repeat with_reducible refine sub_cons (by (repeat first | with_reducible assumption | with_reducible exact List.mem_cons_self | with_reducible refine List.mem_cons_of_mem _ ?_ | with_reducible exact List.mem_append_left _ (by assumption) | with_reducible refine List.mem_append_right _ ?_)) ?_); first | exact fun _ hq => absurd hq List.not_mem_nil | (intro q hq; (repeat first | with_reducible assumption | with_reducible exact List.mem_cons_self | with_reducible refine List.mem_cons_of_mem _ ?_ | with_reducible exact List.mem_append_left _ (by assumption) | with_reducible refine List.mem_append_right _ ?_); done) | (intro q hq; rcases List.mem_append.mp hq with hq | hq <;> (repeat first | with_reducible assumption | with_reducible exact List.mem_cons_self | with_reducible refine List.mem_cons_of_mem _ ?_ | with_reducible exact List.mem_append_left _ (by assumption) | with_reducible refine List.mem_append_right _ ?_))
  rintro s9 k9 m9 al av ae e_apart hm9 hA hal F9 N9
  clear F8 N8
  show wpAny _ _ _ _ _ _
  -- home, made, parted
  refine execs_append (xs := [lawAt 10, lawAt 11, lawAt 12]) (ys := [lawAt 13, lawAt 14, lawAt 15, lawAt 16, lawAt 17, lawAt 18, lawAt 19, lawAt 20, lawAt 21, lawAt 22, lawAt 23, lawAt 24, lawAt 25, lawAt 26, lawAt 27]) ?_
  refine @home_step0 mean loose mg mb w h₀ fa cdv m9 _ _ E KX T K0 hE o1' o2' o3 o4 o5 ((al, W.listOf av.toArray ae) :: (pl, W.listOf (pairsV pu).toArray pk) :: (sa, instObj 229 da) :: (da, headD w kt hl 1) :: (hl, W.listOf (refs (bookRows a0 a1 a2 a3 tb ub)).toArray pe) :: (ol, W.listOf vs.toArray ep) :: (dl, W.listOf (drawnV (fun p => (D p : Int)) te).toArray ek) :: (el, W.listOf [Value.str (endS 0) e0, Value.str (endS 1) e1, Value.str (endS 2) e2].toArray ek0) :: (bookLed a0 a1 a2 a3 tb ub ++ tups)) ?_ ho3 ?_ ?_ ?_
  · have lc := lcell (h₀.objs.size + 1 + 1 + 1, o3) (by (repeat first | with_reducible assumption | with_reducible exact List.mem_cons_self | with_reducible refine List.mem_cons_of_mem _ ?_ | with_reducible exact List.mem_append_left _ (by assumption) | with_reducible refine List.mem_append_right _ ?_))
    have l3 : @LT.lt Nat _ (h₀.objs.size + 1 + 1 + 1) hl := hhl (h₀.objs.size + 1 + 1 + 1, o3) (by (repeat first | with_reducible assumption | with_reducible exact List.mem_cons_self | with_reducible refine List.mem_cons_of_mem _ ?_ | with_reducible exact List.mem_append_left _ (by assumption) | with_reducible refine List.mem_append_right _ ?_))
    intro p hp
    rcases List.mem_cons.mp hp with rfl | hp
    · exact Ne.symm (hal (h₀.objs.size + 1 + 1 + 1, o3) (by (repeat first | with_reducible assumption | with_reducible exact List.mem_cons_self | with_reducible refine List.mem_cons_of_mem _ ?_ | with_reducible exact List.mem_append_left _ (by assumption) | with_reducible refine List.mem_append_right _ ?_)))
    rcases List.mem_cons.mp hp with rfl | hp
    · exact Nat.ne_of_gt lc.1
    rcases List.mem_cons.mp hp with rfl | hp
    · exact Nat.ne_of_gt (Nat.lt_trans l3 (Nat.lt_trans lt1 lt2))
    rcases List.mem_cons.mp hp with rfl | hp
    · exact Nat.ne_of_gt (Nat.lt_trans l3 lt1)
    rcases List.mem_cons.mp hp with rfl | hp
    · exact Nat.ne_of_gt l3
    rcases List.mem_cons.mp hp with rfl | hp
    · exact Nat.ne_of_gt lc.2.2.2.1
    rcases List.mem_cons.mp hp with rfl | hp
    · exact Ne.symm lc.2.2.1
    rcases List.mem_cons.mp hp with rfl | hp
    · exact Nat.ne_of_gt lc.2.1
    rcases List.mem_append.mp hp with hp | hp
    · refine ne_objs N9 (q := (h₀.objs.size + 1 + 1 + 1, o3)) ?_ (by (repeat first | with_reducible assumption | with_reducible exact List.mem_cons_self | with_reducible refine List.mem_cons_of_mem _ ?_ | with_reducible exact List.mem_append_left _ (by assumption) | with_reducible refine List.mem_append_right _ ?_)) (fun e => book_data p hp none (by rw [e]; exact ho3))
      (repeat first | with_reducible assumption | with_reducible exact List.mem_cons_self | with_reducible refine List.mem_cons_of_mem _ ?_ | with_reducible exact List.mem_append_left _ (by assumption) | with_reducible refine List.mem_append_right _ ?_)
    · exact lc.2.2.2.2 p hp
  · exact F9
  · refine News_sub N9 ?_
    (repeat with_reducible refine sub_cons (by (repeat first | with_reducible assumption | with_reducible exact List.mem_cons_self | with_reducible refine List.mem_cons_of_mem _ ?_ | with_reducible exact List.mem_append_left _ (by assumption) | with_reducible refine List.mem_append_right _ ?_)) ?_); first | exact fun _ hq => absurd hq List.not_mem_nil | (intro q hq; (repeat first | with_reducible assumption | with_reducible exact List.mem_cons_self | with_reducible refine List.mem_cons_of_mem _ ?_ | with_reducible exact List.mem_append_left _ (by assumption) | with_reducible refine List.mem_append_right _ ?_); done) | (intro q hq; rcases List.mem_append.mp hq with hq | hq <;> (repeat first | with_reducible assumption | with_reducible exact List.mem_cons_self | with_reducible refine List.mem_cons_of_mem _ ?_ | with_reducible exact List.mem_append_left _ (by assumption) | with_reducible refine List.mem_append_right _ ?_))
  rintro s10 k10 m10 hol' oe o3' tm tp ho3' hlt10 e_made e_parted hm10 F10 N10
  clear F9 N9
  have hlt10 := allLt_mem hlt10
  show wpAny _ _ _ _ _ _
  -- levels
  have eo : m10 (Str.ofString "order") = some (.ref ol) := (hm10 _ (by decide) (by decide)).trans ((hm9 _ (by decide)).trans ((hm8 _).trans ((hm7 _ (by decide)).trans e_order)))
  have ee : m10 (Str.ofString "ends") = some (.ref el) := (hm10 _ (by decide) (by decide)).trans ((hm9 _ (by decide)).trans ((hm8 _).trans ((hm7 _ (by decide)).trans ((hm6 _ (by decide)).trans ((hm5 _ (by decide)).trans ((hm4 _ (by decide)).trans e_ends))))))
  have et : m10 (Str.ofString "total") = some (.int T0 tt) := (hm10 _ (by decide) (by decide)).trans ((hm9 _ (by decide)).trans ((hm8 _).trans ((hm7 _ (by decide)).trans ((hm6 _ (by decide)).trans e_total))))
  have ed : m10 (Str.ofString "depths") = some (.ref dl) := (hm10 _ (by decide) (by decide)).trans ((hm9 _ (by decide)).trans ((hm8 _).trans ((hm7 _ (by decide)).trans ((hm6 _ (by decide)).trans ((hm5 _ (by decide)).trans e_depths)))))
  have ea : m10 (Str.ofString "apart") = some (.ref al) := (hm10 _ (by decide) (by decide)).trans e_apart
  generalize hfx : ((al, W.listOf av.toArray ae) :: (pl, W.listOf (pairsV pu).toArray pk) :: (sa, instObj 229 da) :: (da, headD w kt hl 1) :: (ol, W.listOf vs.toArray ep) :: (dl, W.listOf (drawnV (fun p => (D p : Int)) te).toArray ek) :: (el, W.listOf [Value.str (endS 0) e0, Value.str (endS 1) e1, Value.str (endS 2) e2].toArray ek0) :: ((h₀.objs.size + 1 + 1 + 1 + 1 + 1, o5) :: (h₀.objs.size + 1 + 1 + 1 + 1, o4) :: (h₀.objs.size + 1 + 1 + 1, o3') :: (h₀.objs.size + 1 + 1, o2') :: (h₀.objs.size + 1, o1') :: (bookLed a0 a1 a2 a3 tb ub ++ tups))) = fx
  have fxm : ∀ q, q ∈ fx ↔ (q = (al, W.listOf av.toArray ae) ∨ q = (pl, W.listOf (pairsV pu).toArray pk) ∨ q = (sa, instObj 229 da) ∨ q = (da, headD w kt hl 1) ∨ q = (ol, W.listOf vs.toArray ep) ∨ q = (dl, W.listOf (drawnV (fun p => (D p : Int)) te).toArray ek) ∨ q = (el, W.listOf [Value.str (endS 0) e0, Value.str (endS 1) e1, Value.str (endS 2) e2].toArray ek0) ∨ q = (h₀.objs.size + 1 + 1 + 1 + 1 + 1, o5) ∨ q = (h₀.objs.size + 1 + 1 + 1 + 1, o4) ∨ q = (h₀.objs.size + 1 + 1 + 1, o3') ∨ q = (h₀.objs.size + 1 + 1, o2') ∨ q = (h₀.objs.size + 1, o1') ∨ q ∈ bookLed a0 a1 a2 a3 tb ub ∨ q ∈ tups) := fun q => by
    rw [← hfx]
    simp only [List.mem_cons, List.mem_append]
  have V : Lv w h₀ o1' o2' o3' o4 o5 kt sa da hl ol el hol' 1 ep ek0 vs e0 e1 e2 D ord 0 m10 fx (bookRows a0 a1 a2 a3 tb ub) id [] av ae al 0 tm tp := by
    refine ⟨⟨?_, ?_, ?_, ?_, ?_, ?_, ?_, ?_, ?_⟩, rows_to R ?_, ?_, ?_, ?_, book_good .., ?_, ?_, .nil, ?_, Nat.zero_le _, ?_, ?_, e_made, e_parted, ea⟩
    · rw [← hfx]; (repeat first | with_reducible assumption | with_reducible exact List.mem_cons_self | with_reducible refine List.mem_cons_of_mem _ ?_ | with_reducible exact List.mem_append_left _ (by assumption) | with_reducible refine List.mem_append_right _ ?_)
    · rw [← hfx]; (repeat first | with_reducible assumption | with_reducible exact List.mem_cons_self | with_reducible refine List.mem_cons_of_mem _ ?_ | with_reducible exact List.mem_append_left _ (by assumption) | with_reducible refine List.mem_append_right _ ?_)
    · rw [← hfx]; (repeat first | with_reducible assumption | with_reducible exact List.mem_cons_self | with_reducible refine List.mem_cons_of_mem _ ?_ | with_reducible exact List.mem_append_left _ (by assumption) | with_reducible refine List.mem_append_right _ ?_)
    · rw [← hfx]; (repeat first | with_reducible assumption | with_reducible exact List.mem_cons_self | with_reducible refine List.mem_cons_of_mem _ ?_ | with_reducible exact List.mem_append_left _ (by assumption) | with_reducible refine List.mem_append_right _ ?_)
    · rw [← hfx]; (repeat first | with_reducible assumption | with_reducible exact List.mem_cons_self | with_reducible refine List.mem_cons_of_mem _ ?_ | with_reducible exact List.mem_append_left _ (by assumption) | with_reducible refine List.mem_append_right _ ?_)
    · rw [← hfx]; (repeat first | with_reducible assumption | with_reducible exact List.mem_cons_self | with_reducible refine List.mem_cons_of_mem _ ?_ | with_reducible exact List.mem_append_left _ (by assumption) | with_reducible refine List.mem_append_right _ ?_)
    · rw [← hfx]; (repeat first | with_reducible assumption | with_reducible exact List.mem_cons_self | with_reducible refine List.mem_cons_of_mem _ ?_ | with_reducible exact List.mem_append_left _ (by assumption) | with_reducible refine List.mem_append_right _ ?_)
    · rw [← hfx]; (repeat first | with_reducible assumption | with_reducible exact List.mem_cons_self | with_reducible refine List.mem_cons_of_mem _ ?_ | with_reducible exact List.mem_append_left _ (by assumption) | with_reducible refine List.mem_append_right _ ?_)
    · rw [← hfx]; (repeat first | with_reducible assumption | with_reducible exact List.mem_cons_self | with_reducible refine List.mem_cons_of_mem _ ?_ | with_reducible exact List.mem_append_left _ (by assumption) | with_reducible refine List.mem_append_right _ ?_)
    · intro a l n hq
      rcases List.mem_append.mp hq with hq | hq
      · rw [← hfx]; (repeat first | with_reducible assumption | with_reducible exact List.mem_cons_self | with_reducible refine List.mem_cons_of_mem _ ?_ | with_reducible exact List.mem_append_left _ (by assumption) | with_reducible refine List.mem_append_right _ ?_)
      · exfalso
        simp only [List.mem_cons, List.not_mem_nil, or_false, Prod.mk.injEq] at hq
        rcases hq with h | h | h | h | h | h | h | h
        · exact tup_list h.2
        · exact tup_list h.2
        · exact tup_cell ho5 h.2
        · exact tup_cell ho4 h.2
        · exact tup_cell ho3 h.2
        · exact tup_cell ho2 h.2
        · exact tup_cell ho1' h.2
        · exact tup_list h.2
    · rw [← hfx]; (repeat first | with_reducible assumption | with_reducible exact List.mem_cons_self | with_reducible refine List.mem_cons_of_mem _ ?_ | with_reducible exact List.mem_append_left _ (by assumption) | with_reducible refine List.mem_append_right _ ?_)
    · intro q hq
      rw [fxm] at hq
      rcases hq with rfl | rfl | rfl | rfl | rfl | rfl | rfl | rfl | rfl | rfl | rfl | rfl | hq | hq
      · exact Ne.symm (hal (hl, W.listOf (refs (bookRows a0 a1 a2 a3 tb ub)).toArray pe) (by (repeat first | with_reducible assumption | with_reducible exact List.mem_cons_self | with_reducible refine List.mem_cons_of_mem _ ?_ | with_reducible exact List.mem_append_left _ (by assumption) | with_reducible refine List.mem_append_right _ ?_)))
      · exact Nat.ne_of_lt (hhl (pl, W.listOf (pairsV pu).toArray pk) (by (repeat first | with_reducible assumption | with_reducible exact List.mem_cons_self | with_reducible refine List.mem_cons_of_mem _ ?_ | with_reducible exact List.mem_append_left _ (by assumption) | with_reducible refine List.mem_append_right _ ?_)))
      · exact Nat.ne_of_gt (Nat.lt_trans lt1 lt2)
      · exact Nat.ne_of_gt lt1
      · exact Nat.ne_of_lt (hhl (ol, W.listOf vs.toArray ep) (by (repeat first | with_reducible assumption | with_reducible exact List.mem_cons_self | with_reducible refine List.mem_cons_of_mem _ ?_ | with_reducible exact List.mem_append_left _ (by assumption) | with_reducible refine List.mem_append_right _ ?_)))
      · exact Nat.ne_of_lt (hhl (dl, W.listOf (drawnV (fun p => (D p : Int)) te).toArray ek) (by (repeat first | with_reducible assumption | with_reducible exact List.mem_cons_self | with_reducible refine List.mem_cons_of_mem _ ?_ | with_reducible exact List.mem_append_left _ (by assumption) | with_reducible refine List.mem_append_right _ ?_)))
      · exact Nat.ne_of_lt (hhl (el, W.listOf [Value.str (endS 0) e0, Value.str (endS 1) e1, Value.str (endS 2) e2].toArray ek0) (by (repeat first | with_reducible assumption | with_reducible exact List.mem_cons_self | with_reducible refine List.mem_cons_of_mem _ ?_ | with_reducible exact List.mem_append_left _ (by assumption) | with_reducible refine List.mem_append_right _ ?_)))
      · exact Nat.ne_of_lt (hhl (h₀.objs.size + 1 + 1 + 1 + 1 + 1, o5) (by (repeat first | with_reducible assumption | with_reducible exact List.mem_cons_self | with_reducible refine List.mem_cons_of_mem _ ?_ | with_reducible exact List.mem_append_left _ (by assumption) | with_reducible refine List.mem_append_right _ ?_)))
      · exact Nat.ne_of_lt (hhl (h₀.objs.size + 1 + 1 + 1 + 1, o4) (by (repeat first | with_reducible assumption | with_reducible exact List.mem_cons_self | with_reducible refine List.mem_cons_of_mem _ ?_ | with_reducible exact List.mem_append_left _ (by assumption) | with_reducible refine List.mem_append_right _ ?_)))
      · exact Nat.ne_of_lt (hhl (h₀.objs.size + 1 + 1 + 1, o3) (by (repeat first | with_reducible assumption | with_reducible exact List.mem_cons_self | with_reducible refine List.mem_cons_of_mem _ ?_ | with_reducible exact List.mem_append_left _ (by assumption) | with_reducible refine List.mem_append_right _ ?_)))
      · exact Nat.ne_of_lt (hhl (h₀.objs.size + 1 + 1, o2') (by (repeat first | with_reducible assumption | with_reducible exact List.mem_cons_self | with_reducible refine List.mem_cons_of_mem _ ?_ | with_reducible exact List.mem_append_left _ (by assumption) | with_reducible refine List.mem_append_right _ ?_)))
      · exact Nat.ne_of_lt (hhl (h₀.objs.size + 1, o1') (by (repeat first | with_reducible assumption | with_reducible exact List.mem_cons_self | with_reducible refine List.mem_cons_of_mem _ ?_ | with_reducible exact List.mem_append_left _ (by assumption) | with_reducible refine List.mem_append_right _ ?_)))
      · exact Nat.ne_of_lt (hhl q (by (repeat first | with_reducible assumption | with_reducible exact List.mem_cons_self | with_reducible refine List.mem_cons_of_mem _ ?_ | with_reducible exact List.mem_append_left _ (by assumption) | with_reducible refine List.mem_append_right _ ?_)))
      · exact Nat.ne_of_lt (hhl q (by (repeat first | with_reducible assumption | with_reducible exact List.mem_cons_self | with_reducible refine List.mem_cons_of_mem _ ?_ | with_reducible exact List.mem_append_left _ (by assumption) | with_reducible refine List.mem_append_right _ ?_)))
    · refine fun q hq => Nat.ne_of_lt (hlt10 q ?_)
      revert q
      rw [← hfx]
      (repeat with_reducible refine sub_cons (by (repeat first | with_reducible assumption | with_reducible exact List.mem_cons_self | with_reducible refine List.mem_cons_of_mem _ ?_ | with_reducible exact List.mem_append_left _ (by assumption) | with_reducible refine List.mem_append_right _ ?_)) ?_); first | exact fun _ hq => absurd hq List.not_mem_nil | (intro q hq; (repeat first | with_reducible assumption | with_reducible exact List.mem_cons_self | with_reducible refine List.mem_cons_of_mem _ ?_ | with_reducible exact List.mem_append_left _ (by assumption) | with_reducible refine List.mem_append_right _ ?_); done) | (intro q hq; rcases List.mem_append.mp hq with hq | hq <;> (repeat first | with_reducible assumption | with_reducible exact List.mem_cons_self | with_reducible refine List.mem_cons_of_mem _ ?_ | with_reducible exact List.mem_append_left _ (by assumption) | with_reducible refine List.mem_append_right _ ?_))
    · intro r hr
      have hq := book_rows r hr
      rw [← hfx]
      (repeat first | with_reducible assumption | with_reducible exact List.mem_cons_self | with_reducible refine List.mem_cons_of_mem _ ?_ | with_reducible exact List.mem_append_left _ (by assumption) | with_reducible refine List.mem_append_right _ ?_)
    · exact conn_id
    · rw [psL_zero]; exact hA
    · exact fun j _ hj => absurd hj (Nat.not_lt_zero _)
    · exact fun j _ _ => Nat.zero_le _
  have N11 : News h₀ h₀.objs.size s10 ((hl, W.listOf (refs (bookRows a0 a1 a2 a3 tb ub)).toArray pe) :: (hol', W.listOf ([] : List Value).toArray oe) :: fx) := by
    refine News_sub N10 ?_
    rw [← hfx]
    (repeat with_reducible refine sub_cons (by (repeat first | with_reducible assumption | with_reducible exact List.mem_cons_self | with_reducible refine List.mem_cons_of_mem _ ?_ | with_reducible exact List.mem_append_left _ (by assumption) | with_reducible refine List.mem_append_right _ ?_)) ?_); first | exact fun _ hq => absurd hq List.not_mem_nil | (intro q hq; (repeat first | with_reducible assumption | with_reducible exact List.mem_cons_self | with_reducible refine List.mem_cons_of_mem _ ?_ | with_reducible exact List.mem_append_left _ (by assumption) | with_reducible refine List.mem_append_right _ ?_); done) | (intro q hq; rcases List.mem_append.mp hq with hq | hq <;> (repeat first | with_reducible assumption | with_reducible exact List.mem_cons_self | with_reducible refine List.mem_cons_of_mem _ ?_ | with_reducible exact List.mem_append_left _ (by assumption) | with_reducible refine List.mem_append_right _ ?_))
  clear N10
  have hhh : hl ≠ hol' := Nat.ne_of_lt (hlt10 (hl, W.listOf (refs (bookRows a0 a1 a2 a3 tb ub)).toArray pe) (by (repeat first | with_reducible assumption | with_reducible exact List.mem_cons_self | with_reducible refine List.mem_cons_of_mem _ ?_ | with_reducible exact List.mem_append_left _ (by assumption) | with_reducible refine List.mem_append_right _ ?_)))
  have hol6 : ord.length = 6 := hperm.length_eq
  have hord : ∀ p, p ∈ ord := fun p => hperm.symm.subset (mem_allP p)
  refine step_seq ?_
  refine @level_loop mean loose mg mb w h₀ fa cdv m10 _ _ E KX T K0 hE o1' o2' o3' o4 o5 kt sa da hl ol el hol' 1 ep ek0 vs e0 e1 e2 D ord T0 tt ho2' ho3' hol6 hord hD hsort lt1 lt2 hhh fx (bookRows a0 a1 a2 a3 tb ub) id [] av pe oe ae al 0 tm tp V eo ee et ?_ ?_ ?_
  · exact F10
  · exact N11
  rintro s12 k12 m12 ex rows' hd' hv' av' pe' oe' ae' al' ma' tm' tp' V' hm12 F12 N12
  clear F10 N11
  show wpAny _ _ _ _ _ _
  -- the tail
  refine @law_tail mean loose mg mb w h₀ fa cdv m12 _ _ E KX T K0 hE o1' o2' o3' o4 o5 pl dl hol' pk ek oe' D pu te hv' tp' ho1' ho3' ho4 ho5 hD V'.H ?_ ?_ ?_ V'.e_parted ?_ ?_ done
  · intro q hq
    simp only [List.mem_cons, List.not_mem_nil, or_false] at hq
    have lc := lcell (h₀.objs.size + 1 + 1 + 1 + 1, o4) (by (repeat first | with_reducible assumption | with_reducible exact List.mem_cons_self | with_reducible refine List.mem_cons_of_mem _ ?_ | with_reducible exact List.mem_append_left _ (by assumption) | with_reducible refine List.mem_append_right _ ?_))
    rcases hq with rfl | rfl | rfl
    · exact Ne.symm lc.2.2.1
    · exact Nat.ne_of_gt lc.1
    · exact Nat.ne_of_gt (hlt10 (h₀.objs.size + 1 + 1 + 1 + 1, o4) (by (repeat first | with_reducible assumption | with_reducible exact List.mem_cons_self | with_reducible refine List.mem_cons_of_mem _ ?_ | with_reducible exact List.mem_append_left _ (by assumption) | with_reducible refine List.mem_append_right _ ?_)))
  · intro q hq
    simp only [List.mem_cons, List.not_mem_nil, or_false] at hq
    have lc := lcell (h₀.objs.size + 1 + 1 + 1 + 1 + 1, o5) (by (repeat first | with_reducible assumption | with_reducible exact List.mem_cons_self | with_reducible refine List.mem_cons_of_mem _ ?_ | with_reducible exact List.mem_append_left _ (by assumption) | with_reducible refine List.mem_append_right _ ?_))
    rcases hq with rfl | rfl | rfl
    · exact Ne.symm lc.2.2.1
    · exact Nat.ne_of_gt lc.1
    · exact Nat.ne_of_gt (hlt10 (h₀.objs.size + 1 + 1 + 1 + 1 + 1, o5) (by (repeat first | with_reducible assumption | with_reducible exact List.mem_cons_self | with_reducible refine List.mem_cons_of_mem _ ?_ | with_reducible exact List.mem_append_left _ (by assumption) | with_reducible refine List.mem_append_right _ ?_)))
  · exact (hm12 _ (by decide)).trans ed
  · exact F12
  · refine News_sub N12 ?_
    rw [← hfx]
    (repeat with_reducible refine sub_cons (by (repeat first | with_reducible assumption | with_reducible exact List.mem_cons_self | with_reducible refine List.mem_cons_of_mem _ ?_ | with_reducible exact List.mem_append_left _ (by assumption) | with_reducible refine List.mem_append_right _ ?_)) ?_); exact fun _ hq => absurd hq List.not_mem_nil
end Mine
end
section
open PySem PySem.W PySem.Calls PyProof.Rows
namespace Mine
theorem law_body : [lawAt 0, lawAt 1, lawAt 2, lawAt 3, lawAt 4, lawAt 5, lawAt 6, lawAt 7, lawAt 8, lawAt 9, lawAt 10, lawAt 11, lawAt 12, lawAt 13, lawAt 14, lawAt 15, lawAt 16, lawAt 17, lawAt 18, lawAt 19, lawAt 20, lawAt 21, lawAt 22, lawAt 23, lawAt 24, lawAt 25, lawAt 26, lawAt 27] = lawBody := by rfl
local macro_rules | `(tactic| k_qdec) => `(tactic| decide +kernel)
end Mine
end
open PySem PySem.W PySem.Calls PyProof.Rows
local macro_rules | `(tactic| k_qdec) => `(tactic| decide +kernel)
set_option maxRecDepth 100000 in
set_option maxHeartbeats 0 in
theorem PySem.Challenge.cw_ty0055_01_holds : PySem.Challenge.rw_ty0055_01.Holds := by
  refine Mine.hd ?_
  k_go0
  have W := @Mine.law_whole
  rw [Mine.law_body] at W
  refine W _ _ _ _ _ _ _ _ (by assumption) (by assumption) (by assumption) ?hE _ _ _ _ _ _ _ _ (by assumption) (by assumption) ?hn ?c1 ?c2 ?c3 ?c4 ?c5 ?es (by assumption) (by assumption) ?done
  case hE => passes_own
  case hn => omega
  case es => rfl
  case done =>
    clear W
    intro h' tk m' nw F N
    first | wrow_close | (k_end; wrow_close)
  all_goals
    clear W
    rename CellsAre _ _ _ => X
    obtain ⟨p1, p2, p3, p4, p5, he, g1, g2, g3, g4, g5⟩ := PyProof.Rows.kc_five X
    simp only [List.cons.injEq, Prod.mk.injEq, true_and, and_true] at he
    obtain ⟨z1, z2, z3, z4, z5⟩ := he
    subst z1 z2 z3 z4 z5
    first | exact g1 | exact g2 | exact g3 | exact g4 | exact g5
